import PyProof.Rows.All
import Wide.All
import OpenK.AllK
import Wide.FinOn
import PySem.Challenge.RW_yi0068_01
set_option Elab.async false
set_option linter.all false
open PySem PySem.W PyProof.Rows
set_option Elab.async false
namespace Mine
theorem run_of_seg {tb : String → Option Builtin} {p : Program} {w : World} {n₀ : Nat} {ann : Option Value} : ∀ {n : Nat} {s s' : Shared} {t : Thread} {f : Flow} {c : Code} {q : Pos},
    segRun tb p w n₀ ann 0 n s t = some (f, s', c, q) → topRun tb p w n₀ ann n s t = some s'
  | 0, _, _, _, _, _, _, h => by cases h
  | n + 1, s, s', t, f, c, q, h => by
    unfold segRun at h
    unfold topRun
    have key : (endAt 0 t).isSome = through t := by
      obtain ⟨cur, code, pos, stack⟩ := t
      unfold endAt through
      cases stack with
      | cons a b => simp
      | nil => cases cur <;> simp <;> rename_i a <;> cases a <;> simp
    cases he : endAt 0 t with
    | some x => rw [he] at h key; rw [← key]; cases h; rfl
    | none =>
      rw [he] at h key
      rw [← key]
      dsimp only [Option.isSome] at h ⊢
      cases hk : stepOk n₀ ann t with
      | false => rw [hk] at h; cases h
      | true =>
        rw [hk] at h
        cases hs : step (denote tb) p w s t with
        | halt o s' => rw [hs] at h; cases h
        | go s₂ t₂ => rw [hs] at h; exact run_of_seg h

theorem left_of_tree {p q : Program} {loose : List Str} {Xt : Shared → Bool} {α : Type} {Yf : Shared → α} {Ya : World → α} {N : Nat} {g0 : Bool} {S0 : World × OsState → SharedT}
    (e : opening p = plainProg p.main.scope.names) (hN : Nat.ble 600 N = true) (f : ∀ s, fenceModules? p s = some s)
    (hs : ∀ x, (S0 x).abs = ⟨boot_heap x.1.params, Array.mk [], boot_drawn, boot_toks, x.2⟩)
    (hi : ∀ x : World × OsState, ((boot_heap x.1.params).isNs mainGlobals && (Array.mk [] : Array GenState).size == 0) = true)
    (h : ∀ (x : World × OsState), (segRunT treeTable p x.1 (boot_heap x.1.params).objs.size ((boot_heap x.1.params).nsMap mainGlobals "__annotations__") 0 N (S0 x) (topStub p)).map
        (fun r => (staticsOk (importedModules p.main.body) (boot_heap x.1.params) r.2.1.abs.heap && namesBound p r.2.1.abs.heap && gensDone r.2.1.abs && laidKept (boot_heap x.1.params) r.2.1.abs.heap,
          openSeen q loose (importedModules p.main.body) Xt g0 r.2.1.abs, Yf r.2.1.abs)) = some (true, openGood q loose, Ya x.1)) :
    LeftO p q loose Xt Yf Ya N g0 := fun w => by
  obtain ⟨⟨h', gs, d, k, os⟩, e1, e2⟩ := Option.map_eq_some_iff.mp (boot_open (N := N) e hN f w)
  obtain ⟨rfl, rfl, rfl, rfl⟩ : h' = boot_heap w.params ∧ gs = Array.mk [] ∧ d = boot_drawn ∧ k = boot_toks := by simpa using e2
  unfold openEnds
  rw [e1]
  obtain ⟨⟨fl, s', c, pp⟩, h1, h2⟩ := Option.map_eq_some_iff.mp (h (w, os))
  have h3 := segRun_of h1
  rw [hs] at h3
  have h4 := run_of_seg h3
  obtain ⟨l1, l2, l3⟩ : _ ∧ _ ∧ _ := by simpa only [Prod.mk.injEq] using h2
  show (topFrom treeTable p w N _).map _ = _
  have t : topFrom treeTable p w N ⟨boot_heap w.params, Array.mk [], boot_drawn, boot_toks, os⟩ = some s'.abs := by
    unfold topFrom
    dsimp only
    rw [hi (w, os)]
    dsimp only at h4 ⊢
    rw [h4]
    show (match staticsOk (importedModules p.main.body) (boot_heap w.params) s'.abs.heap && namesBound p s'.abs.heap && gensDone s'.abs && laidKept (boot_heap w.params) s'.abs.heap with | true => _ | false => _) = _
    rw [l1]
  rw [t]
  exact congrArg some (Prod.ext l2 l3)
def q : Program := view PySem.Challenge.pw_yi0068_01 [18]
def loose : List Str := ["_wall", "GenericPolynomialRing", "GenericPolynomial", "GenericMatrix", "GenericModule", "_law_draw", "_law_grid", "_law_stored", "_law_times", "_law_joined", "_law_holds", "_law_kept", "_law_made", "_law_unit", "_law_sum"]
noncomputable def T0 (P : Params) : BT := ((boot_heap P).objs.toList.foldl (fun (tn : BT × Nat) o => (tn.1.ins tn.2 o, tn.2 + 1)) (BT.nil, 0)).1
/-- a head that also says that two tables of codes are still empty -/
def tabHook (H : Hook) (ts : List Addr) : Hook where
  α := H.α × List (Option Obj)
  obs := fun s => (H.obs s, ts.map s.heap.get?)
  val := fun w => (H.val w, ts.map fun _ => some (tabObj #[]))
  says := fun w h => H.says w h ∧ ∀ P ∈ ts, h.get? P = some (tabObj #[])
  of := fun w s x => ⟨H.of w s (Prod.mk.inj x).1, List.map_inj_left.mp (Prod.mk.inj x).2⟩
  keeps := fun w h h' x k => ⟨H.keeps w h h' x.1 k, fun P hP => k _ _ (x.2 P hP)⟩
noncomputable def S0 (x : World × OsState) : SharedT := ⟨T0 x.1.params, (boot_heap x.1.params).objs.size, (boot_heap x.1.params).life, Array.mk [], boot_drawn, boot_toks, x.2⟩
end Mine
local macro_rules | `(tactic| o_head $H) => `(tactic| (refine holds_open (q := Mine.q) (loose := Mine.loose) (Xt := fun s => xlAt Mine.q [] s && recOk (RowW.records PySem.Challenge.rw_yi0068_01.row.toRowW) s) (XP := XL Mine.q []) (Yf := Hook.obs (Mine.tabHook $H [320, 362])) (Ya := Hook.val (Mine.tabHook $H [320, 362])) (YP := Hook.says (Mine.tabHook $H [320, 362])) (N := 5396) (by (refine Mine.left_of_tree (S0 := Mine.S0) (by kernel_rfl) (by decide) (fun _ => rfl) (by intro x; kernel_rfl) (by intro x; kernel_rfl) ?_); (rw [PySem.W.Fast.te10110043849684766642, PySem.W.Fast.te14364793385576792824, PySem.W.Fast.te4187177175401517315]); intro x; kernel_rfl) (Hook.of (Mine.tabHook $H [320, 362])) (Hook.keeps (Mine.tabHook $H [320, 362])) (fun s e => xl_of s (Bool.and_eq_true_iff.mp e).1) XL.keeps (by rfl) (by rfl) (by rfl) (fun s e => recFacts_of (Bool.and_eq_true_iff.mp e).2) (by rfl) (by first | assumption | decide +kernel) (by decide +kernel) ⟨rfl, rfl, rfl, rfl, rfl, by decide +kernel⟩ ?hw ?hc))

section
set_option maxRecDepth 100000
set_option maxHeartbeats 0
namespace Mine
open_top hd for PySem.Challenge.rw_yi0068_01
end Mine
end

open PySem.Calls
namespace Mine
section
/-! ## worlds: a frozen heap G inside a heap h -/
structure Ext (W : List Addr) (G h G' h' : Heap) : Prop where
  keep : ∀ b o, b ∉ W → h.get? b = some o → h'.get? b = some o
  live : ∀ b o, h.get? b = some o → ∃ o', h'.get? b = some o'
  sub : ∀ b o, G.get? b = some o → G'.get? b = some o
  fresh : ∀ b o, G'.get? b = some o → (∃ o', G.get? b = some o') ∨ h.get? b = none
  into : ∀ b o, G'.get? b = some o → h'.get? b = some o
abbrev In (G h : Heap) : Prop := ∀ b o, G.get? b = some o → h.get? b = some o
abbrev Dead (h : Heap) (a : Addr) : Prop := h.get? a = none
theorem dead_of {h : Heap} {a : Addr} (l : h.objs.size ≤ a) : Dead h a := by
  cases q : h.get? a with
  | none => exact q
  | some o => exact absurd (Heap.lt_size q) (Nat.not_lt.mpr l)

variable {W : List Addr}
theorem Ext.refl {G h : Heap} (hi : In G h) : Ext W G h G h := ⟨fun _ _ _ e => e, fun _ o e => ⟨o, e⟩, fun _ _ e => e, fun _ o e => .inl ⟨o, e⟩, hi⟩
theorem Ext.dead {G h G' h' : Heap} (x : Ext W G h G' h') {a : Addr} (d : Dead h' a) : Dead h a := by
  cases q : h.get? a with
  | none => exact q
  | some o => obtain ⟨o', e⟩ := x.live a o q; rw [show h'.get? a = none from d] at e; cases e
theorem Ext.trans {G h G' h' G'' h'' : Heap} (x : Ext W G h G' h') (y : Ext W G' h' G'' h'') : Ext W G h G'' h'' :=
  ⟨fun b o n e => y.keep b o n (x.keep b o n e), fun b o e => let ⟨o', e'⟩ := x.live b o e; y.live b o' e', fun b o e => y.sub b o (x.sub b o e),
   fun b o e => by
    rcases y.fresh b o e with ⟨o', e'⟩ | h
    · exact x.fresh b o' e'
    · exact .inr (x.dead h), y.into⟩
theorem Ext.upd {G₀ h₀ G h h' : Heap} {a : Addr} (e : Ext W G₀ h₀ G h) (sb : ∀ b o, b ≠ a → h.get? b = some o → h'.get? b = some o) (ha : a ∈ W ∨ Dead h₀ a) (hl : ∃ o, h'.get? a = some o) (hoff : G.get? a = none) : Ext W G₀ h₀ G h' :=
  ⟨fun b o n q => sb b o (fun z => by
      subst z
      rcases ha with h1 | h1
      · exact n h1
      · rw [show h₀.get? b = none from h1] at q; cases q) (e.keep b o n q),
   fun b o q => by
    obtain ⟨o', q'⟩ := e.live b o q
    by_cases z : b = a
    · subst z; exact hl
    · exact ⟨o', sb b o' z q'⟩, e.sub, e.fresh, fun b o q => sb b o (fun z => by rw [z, hoff] at q; cases q) (e.into b o q)⟩

structure GO (s s' : Shared) : Prop where
  os : s'.os = s.os
  gens : ∃ k, s'.gens = s.gens ++ Array.replicate k GenState.finished
theorem GO.refl (s : Shared) : GO s s := ⟨rfl, 0, by simp⟩
theorem GO.same {s s' : Shared} (h1 : s'.os = s.os) (h2 : s'.gens = s.gens) : GO s s' := ⟨h1, 0, by simp [h2]⟩
theorem GO.trans {s s' s'' : Shared} (x : GO s s') (y : GO s' s'') : GO s s'' := by
  obtain ⟨x1, k, x2⟩ := x
  obtain ⟨y1, l, y2⟩ := y
  refine ⟨y1.trans x1, k + l, ?_⟩
  rw [y2, x2, Array.append_assoc]
  congr 1
  apply Array.ext'
  simp

section
variable {α β : Type} {W : List Addr} {prog : Program} {w : World} {A : Around}

/-- the tree t, run from (G, h), ends in P; what stood is kept, what is new and shown is fresh -/
def T (W : List Addr) (prog : Program) (w : World) (A : Around) (t : Sem α) (G h : Heap) (P : α → Heap → Heap → Prop) : Prop :=
  ∀ s : Shared, s.heap = h → In G h → wpAny (model prog w) A t (fun a s' => ∃ G', Ext W G h G' s'.heap ∧ GO s s' ∧ P a G' s'.heap) (fun _ _ => False) s

/-- the same, over a base -/
def B (W : List Addr) (prog : Program) (w : World) (A : Around) (G₀ h₀ : Heap) (t : Sem α) (G h : Heap) (P : α → Heap → Heap → Prop) : Prop :=
  ∀ s₀ s : Shared, s₀.heap = h₀ → s.heap = h → GO s₀ s → Ext W G₀ h₀ G h → wpAny (model prog w) A t (fun a s' => ∃ G', Ext W G₀ h₀ G' s'.heap ∧ GO s₀ s' ∧ P a G' s'.heap) (fun _ _ => False) s

variable {t : Sem α} {G h G₀ h₀ : Heap} {P : α → Heap → Heap → Prop}

theorem T.mono {P' : α → Heap → Heap → Prop} (x : T W prog w A t G h P) (hP : ∀ a G' h', Ext W G h G' h' → P a G' h' → P' a G' h') : T W prog w A t G h P' := fun s hs hi =>
  wpAny_mono (x s hs hi) (fun _ _ ⟨G', e, g, p⟩ => ⟨G', e, g, hP _ _ _ e p⟩) fun _ _ z => z
theorem T_pure {a : α} (p : P a G h) : T W prog w A (pure a) G h P := fun s hs hi => by subst hs; exact wpAny_pure ⟨G, Ext.refl hi, GO.refl s, p⟩
theorem T_bind {m : Sem α} {f : α → Sem β} {P : β → Heap → Heap → Prop} (x : T W prog w A m G h (fun a G1 h1 => T W prog w A (f a) G1 h1 P)) : T W prog w A (m >>= f) G h P := fun s hs hi => by
  refine wpAny_bind (wpAny_mono (x s hs hi) ?_ fun _ _ z => z)
  rintro a s1 ⟨G1, e1, g1, h2⟩
  refine wpAny_mono (h2 s1 rfl e1.into) ?_ fun _ _ z => z
  rintro b s2 ⟨G2, e2, g2, p⟩
  exact ⟨G2, e1.trans e2, g1.trans g2, p⟩
theorem T_map {f : α → β} {P : β → Heap → Heap → Prop} (x : T W prog w A t G h (fun a => P (f a))) : T W prog w A (f <$> t) G h P := fun s hs hi => wpAny_map (x s hs hi)
theorem T_holding {vs : List Value} (x : T W prog w A t G h P) : T W prog w A (holding vs t) G h P := fun s hs hi => wpAny_holding (x s hs hi)
theorem T_standAt {pos : Pos} {P : Unit → Heap → Heap → Prop} (p : P () G h) : T W prog w A (standAt pos) G h P := fun s hs hi => by subst hs; exact wpAny_standAt ⟨G, Ext.refl hi, GO.refl s, p⟩
theorem T_rule {tag : String} {P : Unit → Heap → Heap → Prop} (p : P () G h) : T W prog w A (rule tag) G h P := fun s hs hi => by subst hs; exact wpAny_rule ⟨G, Ext.refl hi, GO.refl s, p⟩
theorem T_point {P : Unit → Heap → Heap → Prop} (p : P () G h) : T W prog w A point G h P := fun s hs hi => by subst hs; exact wpAny_point ⟨G, Ext.refl hi, GO.refl s, p⟩
theorem T_onRaise {k : Value → Sem Unit} (x : T W prog w A t G h P) : T W prog w A (t.onRaise k) G h P := fun s hs hi => wpAny_onRaise (wpAny_mono (x s hs hi) (fun _ _ p => p) fun _ _ z => z.elim)
/-- a tree that changes the counters alone -/
theorem T_still {a : α → Prop} (x : ∀ s : Shared, s.heap = h → ∀ (Q : α → Shared → Prop), (∀ v tk, a v → Q v { s with toks := tk }) → wpAny (model prog w) A t Q (fun _ _ => False) s)
    (p : ∀ v, a v → P v G h) : T W prog w A t G h P := fun s hs hi => by
  subst hs
  exact x s rfl _ fun v _ hv => ⟨G, Ext.refl hi, GO.same rfl rfl, p v hv⟩
theorem T_looks {a : α} (x : Looks (model prog w) h t a) (p : P a G h) : T W prog w A t G h P := fun s hs hi => by subst hs; exact x A _ _ s (fun b o e => e) ⟨G, Ext.refl hi, GO.refl s, p⟩
theorem T_eq {a : α} (e : t = pure a) (p : P a G h) : T W prog w A t G h P := e ▸ T_pure p
theorem T_ite {c : Prop} [Decidable c] {x y : Sem α} (p : c → T W prog w A x G h P) (q : ¬ c → T W prog w A y G h P) : T W prog w A (if c then x else y) G h P := by
  by_cases e : c
  · rw [if_pos e]; exact p e
  · rw [if_neg e]; exact q e
theorem T_of_in1 (x : T W prog w A.in1 t G h P) : T W prog w A t G h P := fun s hs hi => wpAny_of_in1 (x s hs hi)

theorem Ext.weak {W' : List Addr} {G h G' h' G₀ h₀ : Heap} (e : Ext W G₀ h₀ G h) (e' : Ext W' G h G' h') (hW : ∀ a ∈ W', a ∈ W ∨ Dead h₀ a) : Ext W G₀ h₀ G' h' :=
  ⟨fun b o n x => e'.keep b o (fun m => (hW b m).elim n fun l => by rw [show h₀.get? b = none from l] at x; cases x) (e.keep b o n x), fun b o x => let ⟨o', x'⟩ := e.live b o x; e'.live b o' x', fun b o x => e'.sub b o (e.sub b o x),
   fun b o x => by
    rcases e'.fresh b o x with ⟨o', e''⟩ | h
    · exact e.fresh b o' e''
    · exact .inr (e.dead h), e'.into⟩
theorem B_of_TW {W' : List Addr} (x : T W' prog w A t G h P) (hW : ∀ a ∈ W', a ∈ W ∨ Dead h₀ a) : B W prog w A G₀ h₀ t G h P := fun s₀ s h0 hs g e => by
  refine wpAny_mono (x s hs e.into) ?_ fun _ _ z => z
  rintro a s' ⟨G', e', g', p⟩
  exact ⟨G', e.weak e' hW, g.trans g', p⟩
theorem B_of_T (x : T W prog w A t G h P) : B W prog w A G₀ h₀ t G h P := B_of_TW x fun _ => .inl
theorem T.weak (x : T [] prog w A t G h P) : T W prog w A t G h P := fun s hs hi =>
  wpAny_mono (x s hs hi) (fun _ _ ⟨G', e, g, p⟩ => ⟨G', (Ext.refl hi).weak e fun a m => (by cases m), g, p⟩) fun _ _ z => z
theorem T_of_B (x : B W prog w A G h t G h P) : T W prog w A t G h P := fun s hs hi => x s s hs hs (GO.refl s) (Ext.refl hi)
theorem B.mono {P' : α → Heap → Heap → Prop} (x : B W prog w A G₀ h₀ t G h P) (hP : ∀ a G' h', P a G' h' → P' a G' h') : B W prog w A G₀ h₀ t G h P' := fun s₀ s h0 hs g e =>
  wpAny_mono (x s₀ s h0 hs g e) (fun _ _ ⟨G', e, g, p⟩ => ⟨G', e, g, hP _ _ _ p⟩) fun _ _ z => z
theorem B_bind {m : Sem α} {f : α → Sem β} {P : β → Heap → Heap → Prop} (x : B W prog w A G₀ h₀ m G h (fun a G1 h1 => B W prog w A G₀ h₀ (f a) G1 h1 P)) : B W prog w A G₀ h₀ (m >>= f) G h P := fun s₀ s h0 hs g e => by
  refine wpAny_bind (wpAny_mono (x s₀ s h0 hs g e) ?_ fun _ _ z => z)
  rintro a s1 ⟨G1, e1, g1, h2⟩
  exact h2 s₀ s1 h0 rfl g1 e1
/-- a growing piece first, a piece over the base behind it -/
theorem B_bindT {m : Sem α} {f : α → Sem β} {P : β → Heap → Heap → Prop} (x : T W prog w A m G h (fun a G1 h1 => B W prog w A G₀ h₀ (f a) G1 h1 P)) : B W prog w A G₀ h₀ (m >>= f) G h P := B_bind (B_of_T x)
theorem B_bindTW {W' : List Addr} {m : Sem α} {f : α → Sem β} {P : β → Heap → Heap → Prop} (x : T W' prog w A m G h (fun a G1 h1 => B W prog w A G₀ h₀ (f a) G1 h1 P)) (hW : ∀ a ∈ W', a ∈ W ∨ Dead h₀ a) : B W prog w A G₀ h₀ (m >>= f) G h P := B_bind (B_of_TW x hW)
theorem B_pure {a : α} (p : P a G h) : B W prog w A G₀ h₀ (pure a) G h P := B_of_T (T_pure p)
theorem B_seq {f : Unit → Sem α} {pos : Pos} (x : B W prog w A G₀ h₀ (f ()) G h P) : B W prog w A G₀ h₀ (standAt pos >>= f) G h P := B_bindT (T_standAt x)
theorem T_seq {f : Unit → Sem α} {pos : Pos} (x : T W prog w A (f ()) G h P) : T W prog w A (standAt pos >>= f) G h P := T_bind (T_standAt x)
end

/-! ## one object more -/
def freedObj : Obj := { cls := .none, data := .freed }
def addAt (G : Heap) (a : Addr) (o : Obj) : Heap := { G with objs := (G.objs ++ Array.replicate (a + 1 - G.objs.size) freedObj).setIfInBounds a o }
theorem addAt_get {G : Heap} {a : Addr} {o : Obj} (ho : o.isFreed = false) (b : Addr) : (addAt G a o).get? b = if b = a then some o else G.get? b := by
  unfold addAt Heap.get?
  dsimp only
  by_cases hb : b = a
  · subst hb
    rw [if_pos rfl, Array.getElem?_setIfInBounds]
    have : b < (G.objs ++ Array.replicate (b + 1 - G.objs.size) freedObj).size := by
      rw [Array.size_append, Array.size_replicate]; exact (show ∀ b n : Nat, b < n + (b + 1 - n) by intro b n; omega) _ _
    simp only [if_true, this]
    obtain ⟨c, d, dt, sl⟩ := o
    cases dt <;> first | rfl | (exfalso; revert ho; simp [Obj.isFreed])
  · rw [if_neg hb, Array.getElem?_setIfInBounds]
    have hne : ¬ a = b := fun e => hb e.symm
    simp only [hne, if_false]
    rw [Array.getElem?_append]
    by_cases h1 : b < G.objs.size
    · rw [if_pos h1]
    · rw [if_neg h1, Array.getElem?_eq_none (xs := G.objs) (Nat.not_lt.mp h1), Array.getElem?_replicate]
      by_cases h2 : b - G.objs.size < a + 1 - G.objs.size
      · rw [if_pos h2]; rfl
      · rw [if_neg h2]

theorem Ext.push {G h : Heap} (hi : In G h) {o : Obj} (ho : o.isFreed = false) : Ext W G h (addAt G h.objs.size o) (h.push o) := by
  have none_ : ∀ o', G.get? h.objs.size = some o' → False := fun o' e => Nat.lt_irrefl _ (Heap.lt_size (hi _ _ e))
  refine ⟨fun b o' _ e => Heap.get?_push_of_some _ e, fun b o' e => ⟨o', Heap.get?_push_of_some _ e⟩, fun b o' e => ?_, fun b o' e => ?_, fun b o' e => ?_⟩
  · rw [addAt_get ho, if_neg]
    · exact e
    · rintro rfl; exact none_ _ e
  · rw [addAt_get ho] at e
    by_cases hb : b = h.objs.size
    · exact .inr (dead_of (Nat.le_of_eq hb.symm))
    · rw [if_neg hb] at e; exact .inl ⟨_, e⟩
  · rw [addAt_get ho] at e
    by_cases hb : b = h.objs.size
    · rw [if_pos hb] at e; cases e; rw [hb]; exact Heap.get?_push_size _ ho
    · rw [if_neg hb] at e; exact Heap.get?_push_of_some _ (hi _ _ e)

section
variable {α : Type} {W : List Addr} {prog : Program} {w : World} {A : Around} {G h : Heap}
theorem T_alloc {o : Obj} {P : Addr → Heap → Heap → Prop} (ho : o.isFreed = false) (p : ∀ a G' h', G'.get? a = some o → Ext W G h G' h' → P a G' h') : T W prog w A (alloc o) G h P := fun s hs hi => by
  subst hs
  refine wpAny_alloc ⟨_, Ext.push hi ho, GO.same rfl rfl, p _ _ _ ?_ (Ext.push hi ho)⟩
  rw [addAt_get ho, if_pos rfl]
theorem T_mkInt {i : Int} {P : Value → Heap → Heap → Prop} (p : ∀ tk, P (.int i tk) G h) : T W prog w A (mkInt i) G h P := fun s hs hi => by subst hs; exact wpAny_mkInt ⟨G, Ext.refl hi, GO.same rfl rfl, p _⟩
theorem T_mkText {x : Str} {P : Value → Heap → Heap → Prop} (p : ∀ tk, P (.str x tk) G h) : T W prog w A (mkText x) G h P := fun s hs hi => by subst hs; exact wpAny_mkText ⟨G, Ext.refl hi, GO.same rfl rfl, p _⟩
end
end
section
noncomputable abbrev KK (w : World) : Frag := hd.heap_39 w.params
structure TopG (w : World) (G : Heap) : Prop where
  k : (KK w).In G
  t : ∃ mg mb, TopRead q loose mg mb G
  b : ∃ mg bm ob, BMod G mainGlobals mg bm ob
theorem TopG.keeps {w : World} {G G' : Heap} (x : TopG w G) (k : ∀ b o, G.get? b = some o → G'.get? b = some o) : TopG w G' :=
  ⟨x.k.keeps k, let ⟨a, b, t⟩ := x.t; ⟨a, b, t.keeps k⟩, let ⟨a, b, c, t⟩ := x.b; ⟨a, b, c, t.keeps k⟩⟩
variable {W : List Addr}
theorem TopG.ext {w : World} {G h G' h' : Heap} (x : TopG w G) (e : Ext W G h G' h') : TopG w G' := x.keeps e.sub

/-- a frame: what is known of its locals (l) and of its cells (lc); neither is frozen -/
structure Fm (w : World) (env : Env) (G h : Heap) (l lc : List (Str × Value)) : Prop where
  top : TopG w G
  kind : env.scope.kind = .function
  glob : env.globals = mainGlobals
  blt : env.builtins = builtinsNs
  ns : ∃ m, h.Ns env.locals m ∧ ∀ p ∈ l, m p.1 = some p.2
  cell : ∀ n c, env.cells.lookup n = some c → ∃ v, h.IsCell c v
  cellv : ∀ p ∈ lc, ∃ c, env.cells.lookup p.1 = some c ∧ h.IsCell c (some p.2)
  apart : env.cells.Pairwise fun x y => x.2 ≠ y.2
  offL : G.get? env.locals = none
  offC : ∀ n c, env.cells.lookup n = some c → G.get? c = none
  into : In G h
  base : ∃ H : Heap, H.objs.size ≤ env.locals ∧ (KK w).In H ∧ ∀ b o, H.get? b = some o → G.get? b = some o

theorem off_ext {G h G' h' : Heap} (e : Ext W G h G' h') {a : Addr} (h1 : G.get? a = none) (h2 : ∃ o, h.get? a = some o) : G'.get? a = none := by
  cases q : G'.get? a with
  | none => rfl
  | some o =>
    rcases e.fresh a o q with ⟨o', e'⟩ | l
    · rw [h1] at e'; cases e'
    · obtain ⟨o', e'⟩ := h2; rw [show h.get? a = none from l] at e'; cases e'
theorem ns_live {h : Heap} {a : Addr} {m : Str → Option Value} (x : h.Ns a m) : ∃ o, h.get? a = some o := let ⟨o, _, _, e, _⟩ := x; ⟨o, e⟩
theorem cell_live {h : Heap} {a : Addr} {v : Option Value} (x : h.IsCell a v) : ∃ o, h.get? a = some o := let ⟨o, e, _⟩ := x; ⟨o, e⟩
def OffW (W : List Addr) (env : Env) : Prop := ∀ a ∈ W, a ≠ env.locals ∧ ∀ n c, env.cells.lookup n = some c → a ≠ c
theorem OffW.nil {env : Env} : OffW [] env := fun a m => by cases m
theorem isCell_at {h h' : Heap} {c : Addr} {v : Option Value} (x : h.IsCell c v) (e : ∀ o, h.get? c = some o → h'.get? c = some o) : h'.IsCell c v := let ⟨o, a, b⟩ := x; ⟨o, e o a, b⟩
theorem Fm.ext {w : World} {env : Env} {G h G' h' : Heap} {l lc : List (Str × Value)} (F : Fm w env G h l lc) (e : Ext W G h G' h') (hW : OffW W env := by first | exact OffW.nil | assumption) : Fm w env G' h' l lc :=
  ⟨F.top.ext e, F.kind, F.glob, F.blt, let ⟨m, a, b⟩ := F.ns; ⟨m, a.at' fun o x => e.keep _ o (fun m => (hW _ m).1 rfl) x, b⟩,
   fun n c hc => let ⟨v, x⟩ := F.cell n c hc; ⟨v, isCell_at x fun o q => e.keep _ o (fun m => (hW _ m).2 n c hc rfl) q⟩,
   fun p hp => let ⟨c, hc, x⟩ := F.cellv p hp; ⟨c, hc, isCell_at x fun o q => e.keep _ o (fun m => (hW _ m).2 _ c hc rfl) q⟩, F.apart,
   off_ext e F.offL (let ⟨m, a, _⟩ := F.ns; ns_live a), fun n c hc => off_ext e (F.offC n c hc) (let ⟨v, x⟩ := F.cell n c hc; cell_live x), e.into, let ⟨H, a, b, c⟩ := F.base; ⟨H, a, b, fun x o q => e.sub x o (c x o q)⟩⟩
theorem Fm.weak {w : World} {env : Env} {G h : Heap} {l lc l' lc' : List (Str × Value)} (F : Fm w env G h l lc) (hl : ∀ p ∈ l', p ∈ l) (hc : ∀ p ∈ lc', p ∈ lc) : Fm w env G h l' lc' :=
  ⟨F.top, F.kind, F.glob, F.blt, let ⟨m, a, b⟩ := F.ns; ⟨m, a, fun p hp => b p (hl p hp)⟩, F.cell, fun p hp => F.cellv p (hc p hp), F.apart, F.offL, F.offC, F.into, F.base⟩
/-- other objects may have changed -/
theorem Fm.other {w : World} {env : Env} {G h h' : Heap} {l lc : List (Str × Value)} (F : Fm w env G h l lc) (hk : ∀ b o, (b = env.locals ∨ ∃ n, env.cells.lookup n = some b) → h.get? b = some o → h'.get? b = some o) (hi : In G h') : Fm w env G h' l lc :=
  ⟨F.top, F.kind, F.glob, F.blt, let ⟨m, a, b⟩ := F.ns; ⟨m, a.at' fun o x => hk _ o (.inl rfl) x, b⟩,
   fun n c hc => let ⟨v, x⟩ := F.cell n c hc; ⟨v, isCell_at x fun o q => hk _ o (.inr ⟨n, hc⟩) q⟩,
   fun p hp => let ⟨c, hc, x⟩ := F.cellv p hp; ⟨c, hc, isCell_at x fun o q => hk _ o (.inr ⟨_, hc⟩) q⟩, F.apart, F.offL, F.offC, hi, F.base⟩
theorem Fm.live {w : World} {env : Env} {G h : Heap} {l lc : List (Str × Value)} (F : Fm w env G h l lc) {b : Addr} (x : b = env.locals ∨ ∃ n, env.cells.lookup n = some b) : ∃ o, h.get? b = some o := by
  rcases x with rfl | ⟨n, hc⟩
  · exact let ⟨m, a, _⟩ := F.ns; ns_live a
  · exact let ⟨v, x⟩ := F.cell n b hc; cell_live x
theorem ns_not_cell {h : Heap} {a : Addr} {m : Str → Option Value} {v : Option Value} (x : h.Ns a m) (y : h.IsCell a v) : False := by
  obtain ⟨o, es, ep, ho, hd, _⟩ := x
  obtain ⟨o', ho', hd'⟩ := y
  rw [ho] at ho'; cases ho'
  rw [hd] at hd'; cases hd'
theorem Fm.setL {w : World} {env : Env} {G h h' : Heap} {l lc : List (Str × Value)} {x : Str} {v : Value} {m : Str → Option Value} (F : Fm w env G h l lc) (hm : h.Ns env.locals m) (hl : ∀ p ∈ l, m p.1 = some p.2) (hx : ∀ p ∈ l, p.1 ≠ x) (hn : h'.Ns env.locals (fun y => if y = x then some v else m y)) (hs : Heap.SameBut env.locals h h') : Fm w env G h' ((x, v) :: l) lc := by
  have ne : ∀ n c, env.cells.lookup n = some c → c ≠ env.locals := fun n c hc z => by
    obtain ⟨u, q⟩ := F.cell n c hc
    exact ns_not_cell hm (z ▸ q)
  refine ⟨F.top, F.kind, F.glob, F.blt, ⟨_, hn, fun p hp => ?_⟩, fun n c hc => let ⟨u, q⟩ := F.cell n c hc; ⟨u, q.sameBut hs (ne n c hc)⟩, fun p hp => let ⟨c, hc, q⟩ := F.cellv p hp; ⟨c, hc, q.sameBut hs (ne _ c hc)⟩, F.apart, F.offL, F.offC,
    fun b o e => hs.extBut b o (fun q => by rw [q, F.offL] at e; cases e) (F.into b o e), F.base⟩
  rcases List.mem_cons.mp hp with rfl | hp
  · simp
  · show (if p.1 = x then some v else m p.1) = _
    rw [if_neg (hx p hp)]; exact hl p hp
theorem Fm.setC {w : World} {env : Env} {G h h' : Heap} {l lc : List (Str × Value)} {x : Str} {c : Addr} {v : Value} (F : Fm w env G h l lc) (hc : env.cells.lookup x = some c) (hx : ∀ p ∈ lc, p.1 ≠ x) (hv : h'.IsCell c (some v)) (hs : Heap.SameBut c h h') : Fm w env G h' l ((x, v) :: lc) := by
  have ne : ∀ n c', env.cells.lookup n = some c' → n ≠ x → c' ≠ c := fun n c' hc' hn z => hn (name_of_addr F.apart (mem_of_lookup hc') (z ▸ mem_of_lookup hc))
  have neL : env.locals ≠ c := fun z => by
    obtain ⟨u, q⟩ := F.cell x c hc
    obtain ⟨m, a, _⟩ := F.ns
    exact ns_not_cell a (z ▸ q)
  refine ⟨F.top, F.kind, F.glob, F.blt, let ⟨m, a, b⟩ := F.ns; ⟨m, a.sameBut hs neL, b⟩, fun n c' hc' => ?_, fun p hp => ?_, F.apart, F.offL, F.offC, fun b o e => hs.extBut b o (fun q => by rw [q, F.offC x c hc] at e; cases e) (F.into b o e), F.base⟩
  · by_cases hn : n = x
    · subst hn; rw [hc] at hc'; cases hc'; exact ⟨_, hv⟩
    · obtain ⟨u, q⟩ := F.cell n c' hc'; exact ⟨u, q.sameBut hs (ne n c' hc' hn)⟩
  · rcases List.mem_cons.mp hp with rfl | hp
    · exact ⟨c, hc, hv⟩
    · obtain ⟨c', hc', q⟩ := F.cellv p hp
      exact ⟨c', hc', q.sameBut hs (ne _ c' hc' (hx p hp))⟩
theorem Fm.fr {w : World} {env : Env} {G h : Heap} {l lc : List (Str × Value)} (F : Fm w env G h l lc) : ∃ H m, Fr H env.locals h m ∧ (KK w).In H :=
  let ⟨H, a, b, c⟩ := F.base; let ⟨m, n, _⟩ := F.ns; ⟨H, m, ⟨n, fun x o q => F.into x o (c x o q), a⟩, b⟩

/-- where a frame stands over a base -/
structure Bs (W : List Addr) (h₀ : Heap) (env : Env) : Prop where
  l : env.locals ∈ W ∨ Dead h₀ env.locals
  c : ∀ n c, env.cells.lookup n = some c → c ∈ W ∨ Dead h₀ c

/-- room -/
structure Rm (A : Around) (d : Nat) : Prop where
  hd : A.handled = none
  depth : A.depth + 2 * d ≤ 900
  units : A.units + 20 * d ≤ 9000
theorem Rm.mono {A : Around} {d e : Nat} (x : Rm A d) (h : e ≤ d) : Rm A e := ⟨x.hd, by have := x.depth; omega, by have := x.units; omega⟩
theorem Rm.room {A : Around} {d : Nat} (x : Rm A d) : A.depth < recursionLimit := by have := x.depth; unfold recursionLimit; omega
theorem Rm.croom {A : Around} {d : Nat} (x : Rm A d) : A.units < cLine := by have := x.units; unfold cLine; omega
theorem Rm.deeper {A : Around} {d : Nat} (x : Rm A (d + 1)) (env : Env) : Rm (A.deeper env) d := ⟨x.hd, by have := x.depth; show A.depth + 1 + _ ≤ _; omega, by have := x.units; show A.units + 3 + _ ≤ _; omega⟩
theorem Rm.in1 {A : Around} {d : Nat} (x : Rm A (d + 1)) : Rm A.in1 d := ⟨x.hd, by have := x.depth; show A.depth + _ ≤ _; omega, by have := x.units; show A.units + 1 + _ ≤ _; omega⟩

/-- no name twice -/
def noKey (l : List (Str × Value)) (x : Str) : Bool := l.all fun p => p.1 != x
theorem noKey_of {l : List (Str × Value)} {x : Str} (e : noKey l x = true) : ∀ p ∈ l, p.1 ≠ x := fun p hp => by
  have := List.all_eq_true.mp e p hp
  simpa using this
theorem kind_of {env e : Env} {x : Str} {k : NameKind} (h : env = e) (q : e.kindOf x = some k) : env.kindOf x = some k := h ▸ q
theorem hasCell_of {env e : Env} {x : Str} (h : env = e) (q : (e.cells.lookup x).isSome = true) : (env.cells.lookup x).isSome = true := h ▸ q
section
variable {prog : Program} {w : World} {A : Around} {G h G₀ h₀ : Heap} {env : Env} {l lc : List (Str × Value)} {P : Value → Heap → Heap → Prop}

theorem T_Name {x : Str} {pos : Pos} (y : T W prog w A (loadName env x) G h P) (hd : (x == ("__debug__" : Str)) = false := by decide) : T W prog w A (eval (.Name x pos) env) G h P := fun s hs hi => wpAny_Name (y s hs hi) hd
theorem T_local {x : Str} {pos : Pos} {v : Value} (F : Fm w env G h l lc) (hv : (x, v) ∈ l) (hk : env.kindOf x = some .local) (p : P v G h) (hd : (x == ("__debug__" : Str)) = false := by decide) : T W prog w A (eval (.Name x pos) env) G h P :=
  T_Name (fun s hs hi => by
    subst hs
    obtain ⟨m, a, b⟩ := F.ns
    exact wpAny_loadName_local F.kind hk a (b _ hv) ⟨G, Ext.refl hi, GO.refl s, p⟩) hd
theorem T_cell {x : Str} {pos : Pos} {v : Value} (F : Fm w env G h l lc) (hv : (x, v) ∈ lc) (hk : env.kindOf x = some .cell) (p : P v G h) (hd : (x == ("__debug__" : Str)) = false := by decide) :
    T W prog w A (eval (.Name x pos) env) G h P :=
  T_Name (fun s hs hi => by
    subst hs
    obtain ⟨c, hc, q⟩ := F.cellv _ hv
    exact wpAny_loadName_cell F.kind hk hc q ⟨G, Ext.refl hi, GO.refl s, p⟩) hd
theorem T_free {x : Str} {pos : Pos} {v : Value} (F : Fm w env G h l lc) (hv : (x, v) ∈ lc) (hk : env.kindOf x = some .free) (p : P v G h) (hd : (x == ("__debug__" : Str)) = false := by decide)
    (hn : (x == ("__classdict__" : Str)) = false := by decide) : T W prog w A (eval (.Name x pos) env) G h P :=
  T_Name (fun s hs hi => by
    subst hs
    obtain ⟨c, hc, q⟩ := F.cellv _ hv
    exact wpAny_loadName_free F.kind hk hc q ⟨G, Ext.refl hi, GO.refl s, p⟩ hn) hd
theorem T_global {x : Str} {pos : Pos} {v : Value} (F : Fm w env G h l lc) (hk : env.kindOf x = some .globalImplicit) (e : nsIn (KK w) mainGlobals x = some (some v)) (p : P v G h) (hd : (x == ("__debug__" : Str)) = false := by decide) :
    T W prog w A (eval (.Name x pos) env) G h P := fun s hs hi => by
  subst hs
  obtain ⟨mg, mb, t⟩ := F.top.t
  exact Name_function_global F.kind hk (loadGlobal_global (env := env) (F.glob ▸ t.g.keeps hi) (mg_of F.top.k t.g e) ⟨G, Ext.refl hi, GO.refl s, p⟩) hd
theorem T_builtin {x : Str} {pos : Pos} {v : Value} (F : Fm w env G h l lc) (hk : env.kindOf x = some .globalImplicit) (hv : bootBuiltins x = some v) (e : nsIn (KK w) mainGlobals x = some none) (hn : x ≠ "__name__") (p : P v G h)
    (hd : (x == ("__debug__" : Str)) = false := by decide) : T W prog w A (eval (.Name x pos) env) G h P := fun s hs hi => by
  subst hs
  obtain ⟨mg, mb, t⟩ := F.top.t
  exact Name_function_global F.kind hk (loadGlobal_builtin (env := env) (F.glob ▸ t.g.keeps hi) (mg_none_of F.top.k t.g e) (F.blt ▸ t.b.keeps hi) ((t.builtins x hn).trans hv) ⟨G, Ext.refl hi, GO.refl s, p⟩) hd

/-- storing a name -/
theorem B_storeL {x : Str} {v : Value} {P : Unit → Heap → Heap → Prop} (F : Fm w env G h l lc) (b : env.locals ∈ W ∨ Dead h₀ env.locals) (hk : env.kindOf x = some .local) (hx : noKey l x = true)
    (p : ∀ h', Heap.SameBut env.locals h h' → Fm w env G h' ((x, v) :: l) lc → P () G h') : B W prog w A G₀ h₀ (storeName env x v) G h P := fun s₀ s h0 hs g e => by
  subst hs
  obtain ⟨m, a, c⟩ := F.ns
  refine wpAny_storeName_local hk a (fun h' hn hsb => ?_) (by rw [F.kind]; rfl)
  exact ⟨G, e.upd hsb.extBut b (ns_live hn) F.offL, ⟨g.os, g.gens⟩, p h' hsb (F.setL a c (noKey_of hx) hn hsb)⟩
theorem B_storeC {x : Str} {v : Value} {P : Unit → Heap → Heap → Prop} (F : Fm w env G h l lc) (b : ∀ c, env.cells.lookup x = some c → c ∈ W ∨ Dead h₀ c) (hk : env.kindOf x = some .cell) (hc : (env.cells.lookup x).isSome = true) (hx : noKey lc x = true)
    (p : ∀ c h', env.cells.lookup x = some c → Heap.SameBut c h h' → Fm w env G h' l ((x, v) :: lc) → P () G h') : B W prog w A G₀ h₀ (storeName env x v) G h P := fun s₀ s h0 hs g e => by
  subst hs
  obtain ⟨c, hc⟩ := Option.isSome_iff_exists.mp hc
  obtain ⟨u, q⟩ := F.cell x c hc
  refine wpAny_storeName_cell F.kind hk hc q (fun h' hv hsb => ?_)
  exact ⟨G, e.upd hsb.extBut (b c hc) (cell_live hv) (F.offC x c hc), ⟨g.os, g.gens⟩, p c h' hc hsb (F.setC hc (noKey_of hx) hv hsb)⟩
end

/-- what the binding of parameters says -/
def nodupKeys : List (Str × Value) → Bool
  | [] => true
  | p :: r => noKey r p.1 && nodupKeys r
theorem bindL_skip (ko : Str → Option NameKind) : ∀ (b : List (Str × Value)) (m : Str → Option Value) (x : Str), (∀ p ∈ b, p.1 ≠ x) → bindL ko b m x = m x
  | [], _, _, _ => rfl
  | (n, v) :: r, m, x, h => by
    unfold bindL
    rw [bindL_skip ko r _ x fun p hp => h p (List.mem_cons_of_mem _ hp)]
    split
    · exact if_neg fun e => h (n, v) List.mem_cons_self e.symm
    · rfl
theorem bindL_mem {ko : Str → Option NameKind} : ∀ {b : List (Str × Value)} {m : Str → Option Value} {p : Str × Value}, nodupKeys b = true → p ∈ b → ko p.1 = some .local → bindL ko b m p.1 = some p.2
  | [], _, _, _, h, _ => by cases h
  | (n, v) :: r, m, p, hn, h, hk => by
    obtain ⟨h1, h2⟩ := Bool.and_eq_true_iff.mp hn
    rcases List.mem_cons.mp h with rfl | h
    · unfold bindL
      rw [bindL_skip ko r _ _ (noKey_of h1), if_pos hk]
      simp
    · unfold bindL; exact bindL_mem h2 h hk
theorem bindC_skip (ko : Str → Option NameKind) : ∀ (b : List (Str × Value)) (m : Str → Option Value) (x : Str), (∀ p ∈ b, p.1 ≠ x) → bindC ko b m x = m x
  | [], _, _, _ => rfl
  | (n, v) :: r, m, x, h => by
    unfold bindC
    rw [bindC_skip ko r _ x fun p hp => h p (List.mem_cons_of_mem _ hp)]
    split
    · rfl
    · exact if_neg fun e => h (n, v) List.mem_cons_self e.symm
theorem bindC_mem {ko : Str → Option NameKind} : ∀ {b : List (Str × Value)} {m : Str → Option Value} {p : Str × Value}, nodupKeys b = true → p ∈ b → ko p.1 = some .cell → bindC ko b m p.1 = some p.2
  | [], _, _, _, h, _ => by cases h
  | (n, v) :: r, m, p, hn, h, hk => by
    obtain ⟨h1, h2⟩ := Bool.and_eq_true_iff.mp hn
    rcases List.mem_cons.mp h with rfl | h
    · unfold bindC
      rw [bindC_skip ko r _ _ (noKey_of h1), if_neg (by rw [hk]; decide)]
      simp
    · unfold bindC; exact bindC_mem h2 h hk

/-! ## a def is called -/
def retV : Flow → Value
  | .ret v => v
  | _ => .none
theorem base_of {w : World} {G h : Heap} (top : TopG w G) (hi : In G h) : ∃ H : Heap, H.objs.size ≤ h.objs.size ∧ (KK w).In H ∧ ∀ b o, H.get? b = some o → G.get? b = some o := by
  have get : ∀ b, b < h.objs.size → ({ G with objs := G.objs.extract 0 h.objs.size } : Heap).get? b = G.get? b := fun b hb => by
    unfold Heap.get?
    dsimp only
    rw [Array.getElem?_extract]
    have : (b < min h.objs.size G.objs.size - 0) = (b < G.objs.size) := by
      apply propext; revert hb; generalize h.objs.size = x; generalize G.objs.size = y; intro hb
      have : min x y ≤ x := Nat.min_le_left x y
      have : min x y ≤ y := Nat.min_le_right x y
      rcases Nat.le_total x y with l | l
      · rw [Nat.min_eq_left l]; omega
      · rw [Nat.min_eq_right l]; omega
    by_cases hb2 : b < G.objs.size
    · rw [if_pos (by rw [this]; exact hb2), Nat.zero_add]
    · rw [if_neg (by rw [this]; exact hb2), Array.getElem?_eq_none (xs := G.objs) (Nat.not_lt.mp hb2)]
  refine ⟨{ G with objs := G.objs.extract 0 h.objs.size }, ?_, ?_, ?_⟩
  · show (G.objs.extract 0 h.objs.size).size ≤ h.objs.size
    rw [Array.size_extract]
    have : min h.objs.size G.objs.size ≤ h.objs.size := Nat.min_le_left _ _
    exact Nat.le_trans (Nat.sub_le _ _) this
  · intro b o e
    have q := top.k b o e
    rw [get b (Heap.lt_size (hi b o q))]; exact q
  · intro b o e
    by_cases hb : b < h.objs.size
    · rwa [get b hb] at e
    · exfalso
      have := Heap.lt_size e
      have : (G.objs.extract 0 h.objs.size).size ≤ h.objs.size := by rw [Array.size_extract]; exact Nat.le_trans (Nat.sub_le _ _) (Nat.min_le_left _ _)
      exact hb (Nat.lt_of_lt_of_le (Heap.lt_size e) this)
section
variable {prog : Program} {w : World} {A : Around} {G h G₀ h₀ : Heap} {P : Value → Heap → Heap → Prop}
end
end
section
open LCg (NsObj)

section
variable {α β γ : Type} {W : List Addr} {prog : Program} {w : World} {A : Around} {G h G₀ h₀ : Heap} {t : Sem α} {P : α → Heap → Heap → Prop}
theorem T.run {s : Shared} {Q : α → Shared → Prop} (x : T W prog w A t G h P) (hs : s.heap = h) (hi : In G h) (k : ∀ a s' G', Ext W G h G' s'.heap → GO s s' → P a G' s'.heap → Q a s') : wpAny (model prog w) A t Q (fun _ _ => False) s :=
  wpAny_mono (x s hs hi) (fun a s' ⟨G', e, g, p⟩ => k a s' G' e g p) fun _ _ z => z
theorem B.run {s₀ s : Shared} {Q : α → Shared → Prop} (x : B W prog w A G₀ h₀ t G h P) (h0 : s₀.heap = h₀) (hs : s.heap = h) (g : GO s₀ s) (e : Ext W G₀ h₀ G h) (k : ∀ a s' G', Ext W G₀ h₀ G' s'.heap → GO s₀ s' → P a G' s'.heap → Q a s') :
    wpAny (model prog w) A t Q (fun _ _ => False) s := wpAny_mono (x s₀ s h0 hs g e) (fun a s' ⟨G', e, g, p⟩ => k a s' G' e g p) fun _ _ z => z
theorem B_intro (x : Ext W G₀ h₀ G h → B W prog w A G₀ h₀ t G h P) : B W prog w A G₀ h₀ t G h P := fun s₀ s h0 hs g e => x e s₀ s h0 hs g e
theorem T_intro (x : In G h → T W prog w A t G h P) : T W prog w A t G h P := fun s hs hi => x hi s hs hi
/-- a rule of the library's with one continuation that changes the counters alone -/
theorem T_still1 {v : Tok → α} (x : ∀ s : Shared, ∀ (Q : α → Shared → Prop), (∀ k tk, Q (v k) { s with toks := tk }) → wpAny (model prog w) A t Q (fun _ _ => False) s) (p : ∀ k, P (v k) G h) : T W prog w A t G h P :=
  fun s hs hi => by subst hs; exact x s _ fun k tk => ⟨G, Ext.refl hi, GO.same rfl rfl, p k⟩
theorem T_same {v : α} (x : ∀ s : Shared, s.heap = h → ∀ (Q : α → Shared → Prop), (∀ tk, Q v { s with toks := tk }) → wpAny (model prog w) A t Q (fun _ _ => False) s) (p : P v G h) : T W prog w A t G h P :=
  fun s hs hi => by
    have y := x s hs (fun a s' => ∃ G', Ext W G h G' s'.heap ∧ GO s s' ∧ P a G' s'.heap)
    subst hs
    exact y fun tk => ⟨G, Ext.refl hi, GO.same rfl rfl, p⟩
end

/-! ## expressions -/
section
variable {W : List Addr} {prog : Program} {w : World} {A : Around} {G h G₀ h₀ : Heap} {env : Env} {P : Value → Heap → Heap → Prop}

theorem T_int {i : Int} {k pos} (p : ∀ tk, P (.int i tk) G h) : T W prog w A (eval (.Constant (.int i) k pos) env) G h P := fun s hs hi => by
  subst hs; exact wpAny_Constant_int ⟨G, Ext.refl hi, GO.same rfl rfl, p _⟩
theorem T_bool {c : Bool} {k pos} (p : P (.bool c) G h) : T W prog w A (eval (.Constant (.bool c) k pos) env) G h P := fun s hs hi => by
  subst hs; exact Constant_bool ⟨G, Ext.refl hi, GO.refl s, p⟩
theorem T_BinOp {l op r pos} (x : T W prog w A (eval l env) G h (fun a G1 h1 => T W prog w A (eval r env) G1 h1 (fun b G2 h2 => T W prog w A (binaryOp op a b) G2 h2 P))) : T W prog w A (eval (.BinOp l op r pos) env) G h P :=
  fun s hs hi => wpAny_BinOp (x.run hs hi fun a s1 G1 e1 g1 y => y.run rfl e1.into fun b s2 G2 e2 g2 z => z.run rfl e2.into fun c s3 G3 e3 g3 p => ⟨G3, e1.trans (e2.trans e3), g1.trans (g2.trans g3), p⟩)
theorem T_Compare {l op r pos} (x : T W prog w A (eval l env) G h (fun a G1 h1 => T W prog w A (eval r env) G1 h1 (fun b G2 h2 => T W prog w A (compareOp op a b) G2 h2 P))) (hm : behindInMarks op r = false := by rfl) :
    T W prog w A (eval (.Compare l [op] [r] pos) env) G h P :=
  fun s hs hi => wpAny_Compare1 (x.run hs hi fun a s1 G1 e1 g1 y => y.run rfl e1.into fun b s2 G2 e2 g2 z => z.run rfl e2.into fun c s3 G3 e3 g3 p => ⟨G3, e1.trans (e2.trans e3), g1.trans (g2.trans g3), p⟩) hm
theorem T_UnaryOp {op x pos} (y : T W prog w A (eval x env) G h (fun v G1 h1 => T W prog w A (unaryOp op v) G1 h1 P)) : T W prog w A (eval (.UnaryOp op x pos) env) G h P :=
  fun s hs hi => UnaryOp_ (y.run hs hi fun a s1 G1 e1 g1 z => z.run rfl e1.into fun c s3 G3 e3 g3 p => ⟨G3, e1.trans e3, g1.trans g3, p⟩)
theorem T_IfExp {test body orelse pos} (x : T W prog w A (isTrue test env (eval test env)) G h (fun c G1 h1 => T W prog w A (if c then eval body env else eval orelse env) G1 h1 P)) : T W prog w A (eval (.IfExp test body orelse pos) env) G h P :=
  fun s hs hi => IfExp_ (x.run hs hi fun c s1 G1 e1 g1 z => by cases c <;> exact T.run z rfl e1.into fun c s3 G3 e3 g3 p => ⟨G3, e1.trans e3, g1.trans g3, p⟩)
theorem T_Attribute {value attr pos} (x : T W prog w A (eval value env) G h (fun o G1 h1 => T W prog w A (getAttr o attr true) G1 h1 P))
    (he : eval (.Attribute value attr pos) env = (do
      let o ← eval value env
      standAt pos.atName
      let r ← holding [o] (getAttr o attr true)
      letTemporaryGo value o r
      pure r) := by with_unfolding_all rfl) : T W prog w A (eval (.Attribute value attr pos) env) G h P :=
  fun s hs hi => Attribute_any_ (x.run hs hi fun a s1 G1 e1 g1 z => z.run rfl e1.into fun c s3 G3 e3 g3 p => ⟨G3, e1.trans e3, g1.trans g3, p⟩) he
theorem T_Subscript {value slice pos} (x : T W prog w A (eval value env) G h (fun o G1 h1 => T W prog w A (eval slice env) G1 h1 (fun i G2 h2 => T W prog w A (subscriptTail value slice o i) G2 h2 P))) : T W prog w A (eval (.Subscript value slice pos) env) G h P :=
  fun s hs hi => Subscript_ (x.run hs hi fun a s1 G1 e1 g1 y => y.run rfl e1.into fun b s2 G2 e2 g2 z => z.run rfl e2.into fun c s3 G3 e3 g3 p => ⟨G3, e1.trans (e2.trans e3), g1.trans (g2.trans g3), p⟩)
/-- the and of values -/
theorem T_And {e₁ e₂ rest pos} (x : T W prog w A (eval e₁ env) G h (fun v G1 h1 => T W prog w A (truthy v) G1 h1 (fun c G2 h2 =>
      (c = true → T W prog w A (eval (.BoolOp .And (e₂ :: rest) pos) env) G2 h2 P) ∧ (c = false → P v G2 h2)))) :
    T W prog w A (eval (.BoolOp .And (e₁ :: e₂ :: rest) pos) env) G h P :=
  fun s hs hi => BoolOp_and (x.run hs hi fun a s1 G1 e1 g1 y => y.run rfl e1.into fun b s2 G2 e2 g2 z => by
    cases b with
    | true => exact T.run (z.1 rfl) rfl e2.into fun c s3 G3 e3 g3 p => ⟨G3, e1.trans (e2.trans e3), g1.trans (g2.trans g3), p⟩
    | false => exact ⟨G2, e1.trans e2, g1.trans g2, z.2 rfl⟩)
theorem T_And1 {e₁ pos} (x : T W prog w A (eval e₁ env) G h P) : T W prog w A (eval (.BoolOp .And [e₁] pos) env) G h P := x
theorem T_boolNot {v : Value} (x : T W prog w A (truthy v) G h (fun c G1 h1 => P (.bool (!c)) G1 h1)) : T W prog w A (unaryOp .Not v) G h P := fun s hs hi => not_of (x s hs hi)

/-! ## integers -/
variable {a b : Int} {t u : Tok}
theorem T_add (p : ∀ tk, P (.int (a + b) tk) G h) : T W prog w A (binaryOp .Add (.int a t) (.int b u)) G h P := fun s hs hi => by subst hs; exact PyProof.Rows.add_int ⟨G, Ext.refl hi, GO.same rfl rfl, p _⟩
theorem T_sub (p : ∀ tk, P (.int (a - b) tk) G h) : T W prog w A (binaryOp .Sub (.int a t) (.int b u)) G h P := fun s hs hi => by subst hs; exact PyProof.Rows.sub_int ⟨G, Ext.refl hi, GO.same rfl rfl, p _⟩
theorem T_mul (hm : IntMulOk a b) (p : ∀ tk, P (.int (a * b) tk) G h) : T W prog w A (binaryOp .Mult (.int a t) (.int b u)) G h P := fun s hs hi => by subst hs; exact PyProof.Rows.mul_int ⟨G, Ext.refl hi, GO.same rfl rfl, p _⟩ hm
theorem T_mod (hb : 0 < b) (p : ∀ tk, P (.int (a % b) tk) G h) : T W prog w A (binaryOp .Mod (.int a t) (.int b u)) G h P := fun s hs hi => by
  subst hs
  refine PyProof.Rows.mod_int (by omega) ?_
  rw [Int.fmod_eq_emod_of_nonneg a (Int.le_of_lt hb)]
  exact ⟨G, Ext.refl hi, GO.same rfl rfl, p _⟩
theorem T_neg (p : ∀ tk, P (.int (-a) tk) G h) : T W prog w A (unaryOp .USub (.int a t)) G h P := fun s hs hi => by subst hs; exact PyProof.Rows.neg_int ⟨G, Ext.refl hi, GO.same rfl rfl, p _⟩
theorem T_eqI (p : P (.bool (a == b)) G h) : T W prog w A (compareOp .Eq (.int a t) (.int b u)) G h P := fun s hs hi => by subst hs; exact PyProof.Rows.eq_int ⟨G, Ext.refl hi, GO.refl _, p⟩
theorem T_neI (p : P (.bool (a != b)) G h) : T W prog w A (compareOp .NotEq (.int a t) (.int b u)) G h P := fun s hs hi => by subst hs; exact PyProof.Rows.ne_int ⟨G, Ext.refl hi, GO.refl _, p⟩
theorem T_ltI (p : P (.bool (decide (a < b))) G h) : T W prog w A (compareOp .Lt (.int a t) (.int b u)) G h P := fun s hs hi => by subst hs; exact PyProof.Rows.lt_int ⟨G, Ext.refl hi, GO.refl _, p⟩
theorem T_gtI (p : P (.bool (decide (a > b))) G h) : T W prog w A (compareOp .Gt (.int a t) (.int b u)) G h P := fun s hs hi => by subst hs; exact PyProof.Rows.gt_int ⟨G, Ext.refl hi, GO.refl _, p⟩
theorem T_truthyB {c : Bool} {P : Bool → Heap → Heap → Prop} (p : P c G h) : T W prog w A (truthy (.bool c)) G h P := fun s hs hi => by subst hs; exact wpAny_truthy_bool ⟨G, Ext.refl hi, GO.refl _, p⟩
end

/-! ## tests -/
section
variable {W : List Addr} {prog : Program} {w : World} {A : Around} {G h G₀ h₀ : Heap} {env : Env} {P : Bool → Heap → Heap → Prop} {whole : Sem Value}
theorem T_testCompare {l op r pos} (x : T W prog w A (eval l env) G h (fun a G1 h1 => T W prog w A (eval r env) G1 h1 (fun b G2 h2 => T W prog w A (compareOp op a b) G2 h2 (fun v G3 h3 => T W prog w A (truthy v) G3 h3 P)))) (hm : behindInMarks op r = false := by rfl) :
    T W prog w A (isTrue (.Compare l [op] [r] pos) env whole) G h P := fun s hs hi => by
  refine wpAny_isTrue_Compare1 (x.run hs hi fun a s1 G1 e1 g1 y => y.run rfl e1.into fun b s2 G2 e2 g2 z => z.run rfl e2.into fun c s3 G3 e3 g3 p => ?_) hm
  exact p.run rfl e3.into fun d s4 G4 e4 g4 q => ⟨G4, e1.trans (e2.trans (e3.trans e4)), g1.trans (g2.trans (g3.trans g4)), q⟩
theorem T_testPlain {e : Expr} (x : T W prog w A whole G h (fun v G1 h1 => T W prog w A (truthy v) G1 h1 P)) (he : isTrue e env whole = (do let v ← whole; standAt e.pos; holding [v] (truthy v)) := by rfl) :
    T W prog w A (isTrue e env whole) G h P := fun s hs hi => isTrue_plain (x.run hs hi fun a s1 G1 e1 g1 y => y.run rfl e1.into fun b s2 G2 e2 g2 z => ⟨G2, e1.trans e2, g1.trans g2, z⟩) he
theorem T_testNot {x pos} (y : T W prog w A (isTrue x env (eval x env)) G h (fun c G1 h1 => P (!c) G1 h1)) : T W prog w A (isTrue (.UnaryOp .Not x pos) env whole) G h P := fun s hs hi => isTrue_not (y s hs hi)
theorem T_testAndNil {pos} (p : P true G h) : T W prog w A (isTrue (.BoolOp .And [] pos) env whole) G h P := fun s hs hi => by subst hs; exact isTrue_and_nil ⟨G, Ext.refl hi, GO.refl _, p⟩
theorem T_testAnd {x rest pos} (y : T W prog w A (isTrue x env (eval x env)) G h (fun c G1 h1 => (c = true → T W prog w A (isTrue (.BoolOp .And rest pos) env whole) G1 h1 P) ∧ (c = false → P false G1 h1))) :
    T W prog w A (isTrue (.BoolOp .And (x :: rest) pos) env whole) G h P := fun s hs hi => isTrue_and (y.run hs hi fun c s1 G1 e1 g1 z => by
      cases c with
      | true => exact T.run (z.1 rfl) rfl e1.into fun c s3 G3 e3 g3 p => ⟨G3, e1.trans e3, g1.trans g3, p⟩
      | false => exact ⟨G1, e1, g1, z.2 rfl⟩)
end

/-! ## statements -/
section
variable {W : List Addr} {prog : Program} {w : World} {A : Around} {G h G₀ h₀ : Heap} {env : Env} {P : Flow → Heap → Heap → Prop}
theorem B_of_T0 {α : Type} {t : Sem α} {P : α → Heap → Heap → Prop} (x : T [] prog w A t G h P) : B W prog w A G₀ h₀ t G h P := B_of_T x.weak
theorem B_nil (p : P .next G h) : B W prog w A G₀ h₀ (execs [] env) G h P := B_pure p
abbrev next (k : Heap → Heap → Prop) (P : Flow → Heap → Heap → Prop) : Flow → Heap → Heap → Prop
  | .next, G, h => k G h
  | f, G, h => P f G h
theorem B_cons {st : Stmt} {rest : List Stmt} (x : B W prog w A G₀ h₀ (exec st env) G h (next (fun G1 h1 => B W prog w A G₀ h₀ (execs rest env) G1 h1 P) P)) : B W prog w A G₀ h₀ (execs (st :: rest) env) G h P := fun s₀ s h0 hs g e => by
  refine wpAny_execs_cons (x.run h0 hs g e fun a s1 G1 e1 g1 y => ?_)
  cases a with
  | next => exact B.run y h0 rfl g1 e1 fun a s' G' e g p => ⟨G', e, g, p⟩
  | _ => exact ⟨G1, e1, g1, y⟩
/-- the same; what stands behind the statement is not shown -/
theorem B_consK {st : Stmt} {rest : List Stmt} (x : ∀ K : Heap → Heap → Prop, (∀ G1 h1, B W prog w A G₀ h₀ (execs rest env) G1 h1 P → K G1 h1) → B W prog w A G₀ h₀ (exec st env) G h (next K P)) : B W prog w A G₀ h₀ (execs (st :: rest) env) G h P := B_cons (x _ fun _ _ q => q)
theorem B_Return {e : Expr} {pos} (x : T [] prog w A (eval e env) G h (fun v G1 h1 => P (.ret v) G1 h1)) : B W prog w A G₀ h₀ (exec (.Return (some e) pos) env) G h P := fun s₀ s h0 hs g e => wpAny_Return_some (B_of_T0 x s₀ s h0 hs g e)
theorem B_ReturnW {e : Expr} {pos} (x : B W prog w A G₀ h₀ (eval e env) G h (fun v G1 h1 => P (.ret v) G1 h1)) : B W prog w A G₀ h₀ (exec (.Return (some e) pos) env) G h P := fun s₀ s h0 hs g e => wpAny_Return_some (x s₀ s h0 hs g e)
theorem B_If {test body orelse pos} (x : T [] prog w A (isTrue test env (eval test env)) G h (fun c G1 h1 => (c = true → B W prog w A G₀ h₀ (execs body env) G1 h1 P) ∧ (c = false → B W prog w A G₀ h₀ (execs orelse env) G1 h1 P))) :
    B W prog w A G₀ h₀ (exec (.If test body orelse pos) env) G h P := fun s₀ s h0 hs g e => by
  rw [exec_If]
  refine wpAny_bind (wpAny_standAt (wpAny_bind ((B_of_T0 x).run h0 hs g e fun c s1 G1 e1 g1 y => ?_)))
  cases c with
  | true => exact B.run (y.1 rfl) h0 rfl g1 e1 fun a s' G' e g p => ⟨G', e, g, p⟩
  | false => exact B.run (y.2 rfl) h0 rfl g1 e1 fun a s' G' e g p => ⟨G', e, g, p⟩
theorem B_AssignB {x : Str} {pos' value pos} (hs : swapsWith value (some (.Name x pos')) pos.line env = pure false)
    (y : B W prog w A G₀ h₀ (eval value env) G h (fun v G1 h1 => B W prog w A G₀ h₀ (storeName env x v) G1 h1 (fun _ => P .next))) : B W prog w A G₀ h₀ (exec (.Assign [.Name x pos'] value pos) env) G h P := fun s₀ s h0 hs' g e =>
  wpAny_Assign_Name (y.run h0 hs' g e fun v s1 G1 e1 g1 z => z.run h0 rfl g1 e1 fun _ s2 G2 e2 g2 p => ⟨G2, e2, g2, p⟩) hs
theorem B_Assign {x : Str} {pos' value pos} (hs : swapsWith value (some (.Name x pos')) pos.line env = pure false)
    (y : T [] prog w A (eval value env) G h (fun v G1 h1 => B W prog w A G₀ h₀ (storeName env x v) G1 h1 (fun _ => P .next))) : B W prog w A G₀ h₀ (exec (.Assign [.Name x pos'] value pos) env) G h P := B_AssignB hs (B_of_T0 y)
theorem B_AssignTuple {elts k tpos value pos} (x : T [] prog w A (eval value env) G h (fun v G1 h1 => B W prog w A G₀ h₀ (assign (.Tuple elts k tpos) env v) G1 h1 (fun _ => P .next)))
    (hs : swapsWithSole [.Tuple elts k tpos] value pos.line env = pure false := by rfl) (hw : swappedStores [.Tuple elts k tpos] value env = pure none := by rfl) :
    B W prog w A G₀ h₀ (exec (.Assign [.Tuple elts k tpos] value pos) env) G h P := fun s₀ s h0 hs' g e =>
  PyProof.Rows.Assign_Tuple ((B_of_T0 x).run h0 hs' g e fun v s1 G1 e1 g1 z => z.run h0 rfl g1 e1 fun _ s2 G2 e2 g2 p => ⟨G2, e2, g2, p⟩) hs hw
theorem B_AssignTupleW {elts k tpos value pos} {names : List Str} (x : T [] prog w A (eval value env) G h (fun v G1 h1 => B W prog w A G₀ h₀ (unpackItems v names.length none) G1 h1 (fun items G2 h2 =>
      B W prog w A G₀ h₀ (assignInOrder (names.reverse.map fun n => bindName env n) items.reverse) G2 h2 (fun _ => P .next))))
    (hs : swapsWithSole [.Tuple elts k tpos] value pos.line env = pure false := by rfl) (hw : swappedStores [.Tuple elts k tpos] value env = pure (some names) := by rfl) :
    B W prog w A G₀ h₀ (exec (.Assign [.Tuple elts k tpos] value pos) env) G h P := fun s₀ s h0 hs' g e =>
  PyProof.Rows.Assign_Tuple_swapped ((B_of_T0 x).run h0 hs' g e fun v s1 G1 e1 g1 z => z.run h0 rfl g1 e1 fun _ s2 G2 e2 g2 y => y.run h0 rfl g2 e2 fun _ s3 G3 e3 g3 p => ⟨G3, e3, g3, p⟩) hs hw
theorem B_AssignAttr {o attr pos' value pos} (x : T [] prog w A (eval value env) G h (fun v G1 h1 => T [] prog w A (eval o env) G1 h1 (fun ov G2 h2 => B W prog w A G₀ h₀ (setAttr ov attr v) G2 h2 (fun _ => P .next))))
    (hs : swapsWith value (some (.Attribute o attr pos')) pos.line env = pure false := by rfl) : B W prog w A G₀ h₀ (exec (.Assign [.Attribute o attr pos'] value pos) env) G h P := fun s₀ s h0 hs' g e =>
  plainObj_wpAny_Assign_Attribute ((B_of_T0 x).run h0 hs' g e fun v s1 G1 e1 g1 y => (B_of_T0 y).run h0 rfl g1 e1 fun ov s2 G2 e2 g2 z => z.run h0 rfl g2 e2 fun _ s3 G3 e3 g3 p => ⟨G3, e3, g3, p⟩) hs
theorem B_AssignSub {o i pos' value pos} (x : T [] prog w A (eval value env) G h (fun v G1 h1 => T [] prog w A (eval o env) G1 h1 (fun ov G2 h2 => T [] prog w A (eval i env) G2 h2 (fun iv G3 h3 => B W prog w A G₀ h₀ (setItem ov iv v) G3 h3 (fun _ => P .next)))))
    (hs : swapsWith value (some (.Subscript o i pos')) pos.line env = pure false := by rfl) : B W prog w A G₀ h₀ (exec (.Assign [.Subscript o i pos'] value pos) env) G h P := fun s₀ s h0 hs' g e =>
  wpAny_Assign_Subscript ((B_of_T0 x).run h0 hs' g e fun v s1 G1 e1 g1 y => (B_of_T0 y).run h0 rfl g1 e1 fun ov s2 G2 e2 g2 z => (B_of_T0 z).run h0 rfl g2 e2 fun iv s3 G3 e3 g3 t => t.run h0 rfl g3 e3 fun _ s4 G4 e4 g4 p => ⟨G4, e4, g4, p⟩) hs
theorem B_AugSub {o i pos' op value pos} (x : T [] prog w A (eval o env) G h (fun ov G1 h1 => T [] prog w A (eval i env) G1 h1 (fun iv G2 h2 => T [] prog w A (getItem ov iv) G2 h2 (fun old G3 h3 => T [] prog w A (eval value env) G3 h3 (fun v G4 h4 =>
      T [] prog w A (inplaceOp op old v) G4 h4 (fun nv G5 h5 => B W prog w A G₀ h₀ (setItem ov iv nv) G5 h5 (fun _ => P .next)))))))
    (ha : ∀ ov iv new, augStore i ov iv new = (do holding [new, ov, iv] (setItem ov iv new); release [new, ov, iv] []; pure .next) := by intro _ _ _; rfl) :
    B W prog w A G₀ h₀ (exec (.AugAssign (.Subscript o i pos') op value pos) env) G h P := fun s₀ s h0 hs' g e =>
  PyProof.Rows.wpAny_AugAssign_Subscript_any ((B_of_T0 x).run h0 hs' g e fun v s1 G1 e1 g1 y => (B_of_T0 y).run h0 rfl g1 e1 fun ov s2 G2 e2 g2 z => (B_of_T0 z).run h0 rfl g2 e2 fun iv s3 G3 e3 g3 t => (B_of_T0 t).run h0 rfl g3 e3 fun _ s4 G4 e4 g4 q =>
    (B_of_T0 q).run h0 rfl g4 e4 fun _ s5 G5 e5 g5 r => r.run h0 rfl g5 e5 fun _ s6 G6 e6 g6 p => ⟨G6, e6, g6, p⟩) ha
theorem B_Assert {test msg pos} (x : T [] prog w A (isTrue test env (eval test env)) G h (fun c G1 h1 => c = true ∧ P .next G1 h1)) : B W prog w A G₀ h₀ (exec (.Assert test msg pos) env) G h P := fun s₀ s h0 hs' g e =>
  wpAny_Assert_holds ((B_of_T0 x).run h0 hs' g e fun c s1 G1 e1 g1 y => ⟨y.1, G1, e1, g1, y.2⟩)
end

/-! ## calls -/
section
variable {W : List Addr} {prog : Program} {w : World} {A : Around} {G h G₀ h₀ : Heap} {env : Env} {P : Value → Heap → Heap → Prop} {f : Value} {first : List Value} {pos : Pos}
def Kept (prog : Program) (w : World) (f : Value) (H : Heap) : Prop := ∃ k, Looks (model prog w) H (keeperOf f) k
theorem Kept.builtin {id : String} {H : Heap} : Kept prog w (.builtin id) H := ⟨.machine, Looks.of_pure rfl⟩
theorem Kept.type {id : String} {H : Heap} : Kept prog w (.type id) H := ⟨.machine, Looks.of_pure rfl⟩
theorem Kept.ofK {K : Frag} {f : Value} {H : Heap} (X : K.In H) (e : keepIn K f = true) : Kept prog w f H := let ⟨k, _, l⟩ := looks_keep (M := model prog w) e X; ⟨k, l⟩
theorem Kept.inst {x C : Addr} {ox : Obj} {od : Option Obj} {H : Heap} (I : InstAt H x ox C od) (hd : ox.data = .plain) : Kept prog w (.ref x) H := ⟨_, kco_keeper I hd⟩
theorem T_callWith {args : List (Bool × Sem Value)} {keywords : List (Option Str × Sem Value)}
    (x : T W prog w A (evalArgs f true args keywords) G h (fun a G1 h1 => Kept prog w f h1 ∧ T W prog w A (call f (first ++ a.pos) a.kw) G1 h1 P))
    (hplain : (args.any (·.1) || keywords.any (·.1.isNone)) = false := by rfl) : T W prog w A (callWith pos f first args keywords) G h P := fun s hs hi => by
  unfold callWith
  refine wpAny_bind (wpAny_holding (x.run hs hi fun a s₁ G1 e1 g1 y => wpAny_bind (wpAny_standAt ?_)))
  obtain ⟨⟨k, L⟩, y⟩ := y
  simp only [hplain]
  refine wpAny_bind (L.here ?_)
  have z : wpAny (model prog w) A (call f (first ++ a.pos) a.kw) (fun a s' => ∃ G', Ext W G h G' s'.heap ∧ GO s s' ∧ P a G' s'.heap) (fun _ _ => False) s₁ := y.run rfl e1.into fun c s2 G2 e2 g2 p => ⟨G2, e1.trans e2, g1.trans g2, p⟩
  have tail : ∀ {t : Sem Value}, wpAny (model prog w) A t (fun a s' => ∃ G', Ext W G h G' s'.heap ∧ GO s s' ∧ P a G' s'.heap) (fun _ _ => False) s₁ → wpAny (model prog w) A (t >>= fun r => holding [r] point >>= fun _ => pure r) (fun a s' => ∃ G', Ext W G h G' s'.heap ∧ GO s s' ∧ P a G' s'.heap) (fun _ _ => False) s₁ :=
    fun ht => wpAny_bind (wpAny_mono ht (fun r s₂ hr => wpAny_bind (wpAny_holding (wpAny_point (wpAny_pure hr)))) fun _ _ x => x)
  have marked (mk : Value) : wpAny (model prog w) A (callMarked mk f (first ++ a.pos) a.kw) (fun a s' => ∃ G', Ext W G h G' s'.heap ∧ GO s s' ∧ P a G' s'.heap) (fun _ _ => False) s₁ := by unfold callMarked; exact Calls.wpAny_keep z
  cases k <;> dsimp only <;> first | exact tail z | exact tail (wpAny_operateT z) | (split <;> first | exact tail z | exact tail (marked _))
theorem T_args0 {P : Args → Heap → Heap → Prop} (p : P ⟨[], []⟩ G h) : T W prog w A (evalArgs f true [] []) G h P := fun s hs hi => by subst hs; exact evalArgs_nil3 ⟨G, Ext.refl hi, GO.refl _, p⟩
theorem T_splicedNil {P : List Value → Heap → Heap → Prop} (p : P [] G h) : T W prog w A (spliced []) G h P := fun s hs hi => by subst hs; exact Calls.spliced_nil ⟨G, Ext.refl hi, GO.refl _, p⟩
theorem T_splicedCons {P : List Value → Heap → Heap → Prop} {t : Sem Value} {rest : List (Bool × Sem Value)} (x : T W prog w A t G h (fun v G1 h1 => T W prog w A (spliced rest) G1 h1 (fun vs => P (v :: vs)))) : T W prog w A (spliced ((false, t) :: rest)) G h P :=
  fun s hs hi => Calls.spliced_cons (x.run hs hi fun v s1 G1 e1 g1 y => y.run rfl e1.into fun vs s2 G2 e2 g2 p => ⟨G2, e1.trans e2, g1.trans g2, p⟩)
theorem T_argsP {P : Args → Heap → Heap → Prop} {t : Sem Value} {rest : List (Bool × Sem Value)} (x : T W prog w A (spliced ((false, t) :: rest)) G h (fun vs => P ⟨vs, []⟩)) : T W prog w A (evalArgs f true ((false, t) :: rest) []) G h P :=
  fun s hs hi => Calls.evalArgs_plain (x s hs hi)

theorem T_Call0 {x : Str} {p : Pos} (y : T W prog w A (eval (.Name x p) env) G h (fun f G1 h1 => Kept prog w f h1 ∧ T W prog w A (call f [] []) G1 h1 P)) : T W prog w A (eval (.Call (.Name x p) [] [] pos) env) G h P := fun s hs hi =>
  PyProof.Rows.Call_Name0 (y.run hs hi fun f s1 G1 e1 g1 z => (T_callWith (first := []) (T_args0 z)).run rfl e1.into fun c s2 G2 e2 g2 p => ⟨G2, e1.trans e2, g1.trans g2, p⟩)
theorem T_Call1 {x : Str} {p : Pos} {a : Expr} (y : T W prog w A (eval (.Name x p) env) G h (fun f G1 h1 => T W prog w A (eval a env) G1 h1 (fun v G2 h2 => Kept prog w f h2 ∧ T W prog w A (call f [v] []) G2 h2 P)))
    (hs : starEach [a] env = [(false, eval a env)] := by rfl) : T W prog w A (eval (.Call (.Name x p) [a] [] pos) env) G h P := fun s hs' hi =>
  PyProof.Rows.Call_Name1 (y.run hs' hi fun f s1 G1 e1 g1 z => (T_callWith (first := []) (T_argsP (T_splicedCons (z.mono fun v G2 h2 _ q => T_splicedNil q)))).run rfl e1.into fun c s2 G2 e2 g2 p => ⟨G2, e1.trans e2, g1.trans g2, p⟩) hs
theorem T_Call2 {x : Str} {p : Pos} {a b : Expr} (y : T W prog w A (eval (.Name x p) env) G h (fun f G1 h1 => T W prog w A (eval a env) G1 h1 (fun v G2 h2 => T W prog w A (eval b env) G2 h2 (fun u G3 h3 => Kept prog w f h3 ∧ T W prog w A (call f [v, u] []) G3 h3 P))))
    (hs : starEach [a, b] env = [(false, eval a env), (false, eval b env)] := by rfl) : T W prog w A (eval (.Call (.Name x p) [a, b] [] pos) env) G h P := fun s hs' hi =>
  PyProof.Rows.Call_Name2 (y.run hs' hi fun f s1 G1 e1 g1 z => (T_callWith (first := []) (T_argsP (T_splicedCons (z.mono fun v G2 h2 _ q => T_splicedCons (q.mono fun u G3 h3 _ r => T_splicedNil r))))).run rfl e1.into fun c s2 G2 e2 g2 p => ⟨G2, e1.trans e2, g1.trans g2, p⟩) hs
theorem T_CallN {x : Str} {p : Pos} {args : List Expr} {kws : List Keyword} (y : T W prog w A (eval (.Name x p) env) G h (fun f G1 h1 => T W prog w A (callWith pos f [] (backTo pos (starEach args env)) (backToKw pos (keywordEach kws env))) G1 h1 P)) :
    T W prog w A (eval (.Call (.Name x p) args kws pos) env) G h P := fun s hs hi => by
  refine wpAny_bind (y.run hs hi fun f s1 G1 e1 g1 z => z.run rfl e1.into fun c s2 G2 e2 g2 p => ⟨G2, e1.trans e2, g1.trans g2, p⟩)
abbrev plOf (o : Expr) (env : Env) : Sem Bool := do return (← importBound o env).getD true
theorem T_CallM {o : Expr} {name : Str} {apos : Pos} {args : List Expr} {kws : List Keyword}
    (x : T W prog w A (eval o env) G h (fun ov G1 h1 => T W prog w A (getMethod ov name (plOf o env)) G1 h1 (fun fx G2 h2 => T W prog w A (callWith pos fx.1 fx.2 (backTo pos (starEach args env)) (backToKw pos (keywordEach kws env))) G2 h2 P)))
    (he : eval (.Call (.Attribute o name apos) args kws pos) env = (do
      let ov ← eval o env
      standAt apos.atName
      let (f, first) ← holding [ov] (getMethod ov name (plOf o env))
      callWith pos f first (backTo pos (starEach args env)) (backToKw pos (keywordEach kws env))) := by rfl) : T W prog w A (eval (.Call (.Attribute o name apos) args kws pos) env) G h P := fun s hs hi =>
  methodCall_KW (x.run hs hi fun f s1 G1 e1 g1 z => z.run rfl e1.into fun fx s2 G2 e2 g2 y => y.run rfl e2.into fun c s3 G3 e3 g3 p => ⟨G3, e1.trans (e2.trans e3), g1.trans (g2.trans g3), p⟩) he
end
end
section
/-! ## lists and own objects -/
def LAt (H : Heap) (a : Addr) (vs : List Value) : Prop := ∃ n, H.get? a = some { cls := .type "list", data := .seq vs.toArray n }
theorem LAt.isList {H : Heap} {a : Addr} {vs : List Value} (x : LAt H a vs) : H.IsList a vs.toArray := let ⟨n, e⟩ := x; ⟨_, e, rfl, n, rfl⟩
theorem LAt.keeps {H H' : Heap} {a : Addr} {vs : List Value} (x : LAt H a vs) (k : ∀ b o, H.get? b = some o → H'.get? b = some o) : LAt H' a vs := let ⟨n, e⟩ := x; ⟨n, k _ _ e⟩
theorem LAt.fn {H : Heap} {a : Addr} {vs us : List Value} (x : LAt H a vs) (y : LAt H a us) : vs = us := by
  obtain ⟨n, e⟩ := x
  obtain ⟨m, f⟩ := y
  rw [e] at f
  injection f with f
  injection f with _ _ f
  injection f with f
  simpa using f
/-- a list of n things -/
def LP (H : Heap) (v : Value) (n : Nat) (P : Nat → Value → Prop) : Prop := ∃ a vs, v = .ref a ∧ LAt H a vs ∧ vs.length = n ∧ ∀ i x, vs[i]? = some x → P i x
theorem LP.keeps {H H' : Heap} {v : Value} {n : Nat} {P P' : Nat → Value → Prop} (x : LP H v n P) (k : ∀ b o, H.get? b = some o → H'.get? b = some o) (hP : ∀ i x, i < n → P i x → P' i x := by intros; assumption) : LP H' v n P' := by
  obtain ⟨a, vs, rfl, hl, hn, hp⟩ := x
  refine ⟨a, vs, rfl, hl.keeps k, hn, fun i x e => hP i x ?_ (hp i x e)⟩
  rw [← hn]
  exact (List.getElem?_eq_some_iff.mp e).1
theorem LP.mono {H : Heap} {v : Value} {n : Nat} {P P' : Nat → Value → Prop} (x : LP H v n P) (hP : ∀ i x, i < n → P i x → P' i x) : LP H v n P' := x.keeps (fun _ _ e => e) hP
def intIs (c : Nat → Int) (i : Nat) (x : Value) : Prop := ∃ t, x = .int (c i) t
/-- a list of n whole numbers -/
abbrev IL (H : Heap) (v : Value) (n : Nat) (c : Nat → Int) : Prop := LP H v n (intIs c)
theorem IL.congr {H : Heap} {v : Value} {n : Nat} {c d : Nat → Int} (x : IL H v n c) (h : ∀ i, i < n → c i = d i) : IL H v n d := x.mono fun i x hi ⟨t, e⟩ => ⟨t, by rw [← h i hi]; exact e⟩
def rng (n : Nat) (c : Nat → Int) : List Int := (List.range n).map c
theorem intsAre_of : ∀ {vs : List Value} {c : Nat → Int}, (∀ i x, vs[i]? = some x → intIs c i x) → IntsAre vs ((List.range vs.length).map c)
  | [], _, _ => .nil
  | v :: r, c, h => by
    obtain ⟨t, rfl⟩ := h 0 v rfl
    rw [List.length_cons, List.range_succ_eq_map, List.map_cons, List.map_map]
    exact .cons _ _ (intsAre_of (c := c ∘ Nat.succ) fun i x e => h (i + 1) x (by simpa using e))
theorem IL.ints {H : Heap} {v : Value} {n : Nat} {c : Nat → Int} (x : IL H v n c) : ∃ a vs, v = .ref a ∧ LAt H a vs ∧ IntsAre vs (rng n c) := by
  obtain ⟨a, vs, rfl, hl, hn, hp⟩ := x
  exact ⟨a, vs, rfl, hl, hn ▸ intsAre_of hp⟩
theorem intsAre_get : ∀ {vs : List Value} {ns : List Int}, IntsAre vs ns → ∀ i x, vs[i]? = some x → intIs (fun i => ns.getD i 0) i x
  | _, _, .nil, _, _, e => by simp at e
  | _, _, .cons k t r, 0, x, e => ⟨t, by simp at e; simp [e]⟩
  | _, _, .cons k t r, i + 1, x, e => by
    obtain ⟨u, hu⟩ := intsAre_get r i x (by simpa using e)
    exact ⟨u, by simpa using hu⟩

/-- an own object and its namespace -/
def Ins (H : Heap) (x C : Addr) (m : Str → Option Value) : Prop := ∃ dx, H.get? x = some (instObj C dx) ∧ H.Ns dx m
theorem Ins.keeps {H H' : Heap} {x C : Addr} {m : Str → Option Value} (y : Ins H x C m) (k : ∀ b o, H.get? b = some o → H'.get? b = some o) : Ins H' x C m := let ⟨dx, a, b⟩ := y; ⟨dx, k _ _ a, b.keeps k⟩
theorem lookIn_of {o : Obj} {es : Array DictEntry} {n : Nat} {m : Str → Option Value} (hd : o.data = .dict es n) (hs : StrKeys es) (hf : ∀ name, nsFind es name = m name) (name : Str) : lookIn name o = some (m name) := by
  unfold lookIn
  rw [hd]
  dsimp only
  have := hf name
  unfold nsFind findBy at this
  rw [← Array.find?_toList] at this
  cases q : es.toList.find? (·.key.isStr name) with
  | some e => rw [q] at this; rw [← this]; rfl
  | none =>
    rw [q] at this
    have r : es.toList.any (·.refKey) = false := by
      rw [List.any_eq_false]
      intro e he
      obtain ⟨k, t, hk⟩ := hs e (Array.mem_toList_iff.mp he)
      unfold DictEntry.refKey; rw [hk]; simp
    rw [r, ← this]; rfl
theorem Ins.at_ {H : Heap} {x C : Addr} {m : Str → Option Value} (y : Ins H x C m) : ∃ dx od, InstAt H x (instObj C dx) C (some od) ∧ H.get? dx = some od ∧ ∀ name, lookIn name od = some (m name) := by
  obtain ⟨dx, hx, od, es, n, ho, hd, hs, hf⟩ := y
  exact ⟨dx, od, ⟨hx, rfl, rfl, ho⟩, ho, fun name => lookIn_of hd hs hf name⟩
theorem Ins.kept {prog : Program} {w : World} {H : Heap} {x C : Addr} {m : Str → Option Value} (y : Ins H x C m) : Kept prog w (.ref x) H := let ⟨dx, od, I, _⟩ := y.at_; Kept.inst I rfl

theorem Ext.gain {W : List Addr} {G h h' : Heap} {a : Addr} {o : Obj} (hi : In G h) (hk : ∀ b o, h.get? b = some o → h'.get? b = some o) (ha : Dead h a) (ho : h'.get? a = some o) (hf : o.isFreed = false) :
    Ext W G h (addAt G a o) h' := by
  have none_ : ∀ o', G.get? a = some o' → False := fun o' e => by have := hi _ _ e; rw [show h.get? a = none from ha] at this; cases this
  refine ⟨fun b o _ => hk b o, fun b o e => ⟨o, hk b o e⟩, fun b o' e => ?_, fun b o' e => ?_, fun b o' e => ?_⟩
  · rw [addAt_get hf, if_neg]; exact e
    rintro rfl; exact none_ _ e
  · rw [addAt_get hf] at e
    by_cases hb : b = a
    · exact .inr (hb ▸ ha)
    · rw [if_neg hb] at e; exact .inl ⟨_, e⟩
  · rw [addAt_get hf] at e
    by_cases hb : b = a
    · rw [if_pos hb] at e; cases e; rw [hb]; exact ho
    · rw [if_neg hb] at e; exact hk _ _ (hi _ _ e)
theorem addAt_self {G : Heap} {a : Addr} {o : Obj} (hf : o.isFreed = false) : (addAt G a o).get? a = some o := by rw [addAt_get hf, if_pos rfl]

section
variable {W : List Addr} {prog : Program} {w : World} {A : Around} {G h G₀ h₀ : Heap} {env : Env} {P : Value → Heap → Heap → Prop}

theorem LP.item {v : Value} {n i : Nat} {Q : Nat → Value → Prop} (hl : LP G v n Q) (hi : i < n) : ∃ a vs x, v = .ref a ∧ LAt G a vs ∧ vs[i]? = some x ∧ Q i x ∧ vs.length = n := by
  obtain ⟨a, vs, rfl, h1, rfl, hp⟩ := hl
  exact ⟨a, vs, _, rfl, h1, List.getElem?_eq_getElem hi, hp i _ (List.getElem?_eq_getElem hi), rfl⟩
theorem T_itemH {value slice : Expr} {a : Addr} {vs : List Value} {i : Nat} {x : Value} {k : Int} {t : Tok} (hl : In G h → LAt h a vs) (hk : k = i) (hx : vs[i]? = some x) (hz : vs.length ≤ 1000) (p : P x G h)
    (hs : subscripted slice false (.ref a) (.int k t) = operate [.ref a, .int k t] (getItem (.ref a) (.int k t)) := by with_unfolding_all rfl) : T W prog w A (subscriptTail value slice (.ref a) (.int k t)) G h P := fun s hs' hi => by
  subst hs'
  have hl := (hl hi).isList
  have hlt : i < vs.length := (List.getElem?_eq_some_iff.mp hx).1
  exact tail_any hl.typeIs slot_list_getitem.lookup (wpAny_getItem_list (x := x) hl (by omega) (by omega) (by rw [hk]; simpa using hx) ⟨G, Ext.refl hi, GO.refl _, p⟩) hs
theorem T_item {value slice : Expr} {v : Value} {n i : Nat} {Q : Nat → Value → Prop} {k : Int} {t : Tok} (hl : LP G v n Q) (hk : k = i) (hi : i < n) (hz : n ≤ 1000) (p : ∀ x, Q i x → P x G h)
    (hs : ∀ a, subscripted slice false (.ref a) (.int k t) = operate [.ref a, .int k t] (getItem (.ref a) (.int k t)) := by intro _; with_unfolding_all rfl) : T W prog w A (subscriptTail value slice v (.int k t)) G h P := by
  obtain ⟨a, vs, x, rfl, h1, h2, h3, h4⟩ := hl.item hi
  exact T_itemH (fun i => h1.keeps i) hk h2 (by omega) (p x h3) (hs a)
theorem T_itemLast {value slice : Expr} {v : Value} {n : Nat} {Q : Nat → Value → Prop} {t : Tok} (hl : LP G v n Q) (hi : 0 < n) (p : ∀ x, Q (n - 1) x → P x G h)
    (hs : ∀ a, subscripted slice false (.ref a) (.int (-1) t) = operate [.ref a, .int (-1) t] (getItem (.ref a) (.int (-1) t)) := by intro _; with_unfolding_all rfl) : T W prog w A (subscriptTail value slice v (.int (-1) t)) G h P := by
  obtain ⟨a, vs, x, rfl, h1, h2, h3, h4⟩ := hl.item (i := n - 1) (by omega)
  intro s hs' hi'
  subst hs'
  have hl := (h1.keeps hi').isList
  exact tail_any hl.typeIs slot_list_getitem.lookup (wpAny_getItem_list_neg (x := x) hl (by omega) (by simp; omega) (by omega) (by simp only [List.size_toArray, List.getElem?_toArray]; rw [show (-1 + (vs.length : Int)).toNat = n - 1 by omega]; exact h2) ⟨G, Ext.refl hi', GO.refl _, p x h3⟩) (hs a)
theorem T_lenH {a : Addr} {vs : List Value} (hl : In G h → h.IsList a vs.toArray) (hz : vs.length ≤ 100000) (p : ∀ t, P (.int vs.length t) G h) : T W prog w A (call (.builtin "len") [.ref a] []) G h P := fun s hs hi => by
  subst hs
  refine call_len_list (hl hi) (by simp; omega) ⟨G, Ext.refl hi, GO.same rfl rfl, ?_⟩
  rw [List.size_toArray]; exact p _
theorem T_len {v : Value} {n : Nat} {Q : Nat → Value → Prop} (hl : LP G v n Q) (hz : n ≤ 1000) (p : ∀ t, P (.int n t) G h) : T W prog w A (call (.builtin "len") [v] []) G h P := by
  obtain ⟨a, vs, rfl, h1, rfl, hp⟩ := hl
  exact T_lenH (fun i => (h1.keeps i).isList) (by omega) p
theorem T_abs {a : Int} {t : Tok} (p : ∀ t, P (.int (if a < 0 then -a else a) t) G h) : T W prog w A (call (.builtin "abs") [.int a t] []) G h P := fun s hs hi => by
  subst hs; exact call_abs_int fun u tk => ⟨G, Ext.refl hi, GO.same rfl rfl, p u⟩
/-- a new list -/
theorem T_newList {vs : List Value} (hz : vs.length ≤ 1000) (p : ∀ a G' h', LAt G' a vs → Ext W G h G' h' → P (.ref a) G' h') : T W prog w A (newList vs) G h P := fun s hs hi => by
  subst hs
  refine wpAny_newObj_type ⟨_, Ext.push hi rfl, GO.same rfl rfl, p _ _ _ ⟨_, addAt_self rfl⟩ (Ext.push hi rfl)⟩ ?_
  show vs.toArray.size ≤ sizeLine
  rw [List.size_toArray, sizeLine_eq]; omega
theorem T_newTuple {vs : List Value} (hz : vs.length ≤ 1000) (p : ∀ a G' h', G'.get? a = some { cls := .type "tuple", data := .seq vs.toArray } → Ext W G h G' h' → P (.ref a) G' h') : T W prog w A (newTuple vs) G h P := fun s hs hi => by
  subst hs
  refine wpAny_newObj_type ⟨_, Ext.push hi rfl, GO.same rfl rfl, p _ _ _ (addAt_self rfl) (Ext.push hi rfl)⟩ ?_
  show vs.toArray.size ≤ sizeLine
  rw [List.size_toArray, sizeLine_eq]; omega
theorem T_List {elts : List Expr} {pos : Pos} (x : T W prog w A (spliced (backTo pos (starEach elts env))) G h (fun vs G1 h1 => T W prog w A (newList vs) G1 h1 P)) : T W prog w A (eval (.List elts pos) env) G h P := fun s hs hi =>
  List_ (x.run hs hi fun a s1 G1 e1 g1 y => y.run rfl e1.into fun b s2 G2 e2 g2 z => ⟨G2, e1.trans e2, g1.trans g2, z⟩)
theorem T_Tuple {elts : List Expr} {k : Nat} {pos : Pos} (x : T W prog w A (spliced (backTo pos (starEach elts env))) G h (fun vs G1 h1 => T W prog w A (newTuple vs) G1 h1 P)) : T W prog w A (eval (.Tuple elts k pos) env) G h P := fun s hs hi =>
  Tuple_ (x.run hs hi fun a s1 G1 e1 g1 y => y.run rfl e1.into fun b s2 G2 e2 g2 z => ⟨G2, e1.trans e2, g1.trans g2, z⟩)
theorem T_addLists {a b : Addr} {vs us : List Value} (ha : LAt G a vs) (hb : LAt G b us) (hz : vs.length + us.length ≤ 1000) (p : ∀ c G' h', LAt G' c (vs ++ us) → Ext W G h G' h' → P (.ref c) G' h') : T W prog w A (binaryOp .Add (.ref a) (.ref b)) G h P := fun s hs hi => by
  subst hs
  obtain ⟨n, ha⟩ := ha
  obtain ⟨m, hb⟩ := hb
  have ha := hi _ _ ha
  have hb := hi _ _ hb
  have e : vs.toArray ++ us.toArray = (vs ++ us).toArray := by simp
  refine concat_meets ⟨_, ha, rfl⟩ ⟨_, hb, rfl⟩ noFill_list_add seq_list_add PySem.F.slot_list_add PySem.F.entry_list_add (PySem.F.args_list_add_2 _ _) (list_addW a b vs.toArray us.toArray n m none none #[] #[] (by simp [sizeLine_eq]; omega)) ⟨ha, hb, ?_⟩
  rw [e]
  exact ⟨_, Ext.push hi rfl, GO.same rfl rfl, p _ _ _ ⟨_, addAt_self rfl⟩ (Ext.push hi rfl)⟩
theorem T_listOf {a : Addr} {vs : List Value} (ha : LAt G a vs) (hz : vs.length ≤ 1000) (p : ∀ c G' h', LAt G' c vs → Ext W G h G' h' → P (.ref c) G' h') : T W prog w A (call (.type "list") [.ref a] []) G h P := fun s hs hi => by
  subst hs
  obtain ⟨n, ha⟩ := ha
  refine call_list_seq a (.inl rfl) (hi _ _ ha) rfl rfl (fun h' c' k ho => ?_) (by simp [sizeLine_eq]; omega)
  have e : Ext W G s.heap (addAt G s.heap.objs.size _) h' := Ext.gain hi k (dead_of (Nat.le_refl _)) ho rfl
  exact ⟨_, e, GO.same rfl rfl, p _ _ _ ⟨_, addAt_self rfl⟩ e⟩
theorem T_eqInts {v u : Value} {n m : Nat} {c d : Nat → Int} (hv : IL G v n c) (hu : IL G u m d) (hr : A.units + 64 < cLine) (p : P (.bool (decide (rng n c = rng m d))) G h) : T W prog w A (compareOp .Eq v u) G h P := fun s hs hi => by
  subst hs
  obtain ⟨a, vs, rfl, ha, ia⟩ := hv.ints
  obtain ⟨b, us, rfl, hb, ib⟩ := hu.ints
  exact eq_intsK (ha.keeps hi).isList ia (hb.keeps hi).isList ib hr ⟨G, Ext.refl hi, GO.refl _, p⟩
theorem T_neInts {v u : Value} {n m : Nat} {c d : Nat → Int} (hv : IL G v n c) (hu : IL G u m d) (hr : A.units + 64 < cLine) (p : P (.bool (!decide (rng n c = rng m d))) G h) : T W prog w A (compareOp .NotEq v u) G h P := fun s hs hi => by
  subst hs
  obtain ⟨a, vs, rfl, ha, ia⟩ := hv.ints
  obtain ⟨b, us, rfl, hb, ib⟩ := hu.ints
  exact ne_intsK (ha.keeps hi).isList ia (hb.keeps hi).isList ib hr ⟨G, Ext.refl hi, GO.refl _, p⟩
theorem B_setItem {P : Unit → Heap → Heap → Prop} {a : Addr} {vs : List Value} {i : Nat} {k : Int} {t : Tok} {v : Value} (hl : LAt h a vs) (hk : k = i) (hi : i < vs.length) (hz : vs.length ≤ 1000) (hoff : G.get? a = none) (hW : a ∈ W ∨ Dead h₀ a)
    (p : ∀ h', LAt h' a (vs.set i v) → Heap.SameBut a h h' → In G h' → P () G h') : B W prog w A G₀ h₀ (setItem (.ref a) (.int k t) v) G h P := fun s₀ s h0 hs g e => by
  subst hs
  obtain ⟨n, ha⟩ := hl
  refine PySem.W.ki_setAt (s := s) (items := vs.toArray) (n := n) ha (by omega) (by omega) (by simp; omega) ?_
  have q := PySem.IsL.update ha (fun xs : Array Value => xs.setIfInBounds k.toNat v)
  rw [show vs.toArray.setIfInBounds k.toNat v = (vs.set i v).toArray by rw [hk]; simp] at q
  have sb : Heap.SameBut a s.heap (s.heap.update a (Obj.mapSeq (·.setIfInBounds k.toNat v))) := Heap.SameBut.update ..
  have x := e.upd sb.extBut hW ⟨_, q⟩ hoff
  exact ⟨G, x, ⟨g.os, g.gens⟩, p _ ⟨_, q⟩ sb x.into⟩
end
end
section
/-- a code, over a base -/
def CB (W : List Addr) (prog : Program) (w : World) (A : Around) (G₀ h₀ : Heap) (c : Code) (G h : Heap) (P : Value → Heap → Heap → Prop) : Prop :=
  ∀ s₀ s : Shared, s₀.heap = h₀ → s.heap = h → GO s₀ s → Ext W G₀ h₀ G h →
    codeAny (model prog w) A c (fun r s' => match r with | .ok (.ret v) => ∃ G', Ext W G₀ h₀ G' s'.heap ∧ GO s₀ s' ∧ P v G' s'.heap | .ok _ => False | .error _ => False) s
abbrev C (W : List Addr) (prog : Program) (w : World) (A : Around) (c : Code) (G h : Heap) (P : Value → Heap → Heap → Prop) : Prop := CB W prog w A G h c G h P

section
variable {W : List Addr} {prog : Program} {w : World} {A : Around} {G h G₀ h₀ : Heap} {P : Value → Heap → Heap → Prop} {c : Code}
theorem CB.mono {P' : Value → Heap → Heap → Prop} (x : CB W prog w A G₀ h₀ c G h P) (hP : ∀ v G' h', P v G' h' → P' v G' h') : CB W prog w A G₀ h₀ c G h P' := fun s₀ s h0 hs g e =>
  codeAny_mono (x s₀ s h0 hs g e) fun r s' z => by
    rcases r with _ | (_ | _ | _ | _) <;> first | exact z | exact z.elim | skip
    exact let ⟨G', a, b, c⟩ := z; ⟨G', a, b, hP _ _ _ c⟩
theorem CB.run {s₀ s : Shared} {R : Result → Shared → Prop} (x : CB W prog w A G₀ h₀ c G h P) (h0 : s₀.heap = h₀) (hs : s.heap = h) (g : GO s₀ s) (e : Ext W G₀ h₀ G h) (k : ∀ v s' G', Ext W G₀ h₀ G' s'.heap → GO s₀ s' → P v G' s'.heap → R (.ok (.ret v)) s') :
    codeAny (model prog w) A c R s := codeAny_mono (x s₀ s h0 hs g e) fun r s' z => by
    rcases r with _ | (_ | _ | _ | _) <;> first | exact z.elim | skip
    exact let ⟨G', a, b, c⟩ := z; k _ _ G' a b c
theorem CB_of_C {W' : List Addr} (x : C W' prog w A c G h P) (hW : ∀ a ∈ W', a ∈ W ∨ Dead h₀ a := by first | (intro a m; exact .inl m) | (intro a m; cases m)) : CB W prog w A G₀ h₀ c G h P := fun s₀ s h0 hs g e => by
  refine codeAny_mono (x s s hs hs (GO.refl s) (Ext.refl e.into)) fun r s' z => ?_
  rcases r with _ | (_ | _ | _ | _) <;> first | exact z | exact z.elim | skip
  exact let ⟨G', a, b, p⟩ := z; ⟨G', e.weak a hW, g.trans b, p⟩
theorem B_C {f : Value} {pos : List Value} {kw : List (Str × Value)} (x : CB W prog w A G₀ h₀ (.call f ⟨pos, kw⟩) G h P) : B W prog w A G₀ h₀ (call f pos kw) G h P := fun s₀ s h0 hs g e =>
  wpAny_call (codeAny_mono (x s₀ s h0 hs g e) fun r s' z => by
    rcases r with _ | (_ | _ | _ | _) <;> first | exact z | exact z.elim)
theorem T_C {f : Value} {pos : List Value} {kw : List (Str × Value)} (x : C W prog w A (.call f ⟨pos, kw⟩) G h P) : T W prog w A (call f pos kw) G h P := T_of_B (B_C x)

theorem CB_fn {d : Nat} {f : Addr} {args : Args} {oc : Value} {od : Option Addr} {osl : Array (Option Value)} {name qual : Str} {params : Arguments} {body : List Stmt} {scope : Scope} {dV kV doc pm cdv ct : Value} {an : Option Addr} {binds : List (Str × Value)}
    (hA : Rm A (d + 1)) (top : TopG w G)
    (ho : (KK w).lookup f = some ⟨oc, od, .func (fnOf name qual params body scope dV kV doc pm an cdv ct), osl⟩) (hcd : codeIn (KK w) cdv qual = true)
    (hbind : ∀ s : Shared, In G s.heap → BindsTo s (fnOf name qual params body scope dV kV doc pm an cdv ct) args binds)
    (hkind : (binds.all fun y => scope.names.lookup y.1 == some .local || scope.names.lookup y.1 == some .cell) = true) (l lc : List (Str × Value)) (hnd : nodupKeys binds = true)
    (hl : ∀ p ∈ l, p ∈ binds) (hl2 : (l.all fun p => scope.names.lookup p.1 == some .local) = true) (hlc : ∀ p ∈ lc, p ∈ binds) (hlc2 : (lc.all fun p => scope.names.lookup p.1 == some .cell) = true)
    (bd : ∀ (A' : Around) (env : Env) (h₁ : Heap), Rm A' d → env = envOfC qual scope h.objs.size f cdv → Fm w env G h₁ l lc → (∀ W', Bs W' h env) → Ext [] G h G h₁ →
      B W prog w A' G₀ h₀ (execs body env) G h₁ (fun fl G' h' => P (retV fl) G' h'))
    (hco : scope.isCoroutine = false := by rfl) (hgen : scope.isGenerator = false := by rfl) (hk : scope.kind = .function := by rfl) :
    CB W prog w A G₀ h₀ (.call (.ref f) args) G h P := fun s₀ s h0 hs g0 e0 => by
  subst hs
  have hl : ∀ p ∈ l, p ∈ binds ∧ scope.names.lookup p.1 = some .local := fun p hp => ⟨hl p hp, by have := List.all_eq_true.mp hl2 p hp; simpa using this⟩
  have hlc : ∀ p ∈ lc, p ∈ binds ∧ scope.names.lookup p.1 = some .cell := fun p hp => ⟨hlc p hp, by have := List.all_eq_true.mp hlc2 p hp; simpa using this⟩
  have hi : In G s.heap := e0.into
  obtain ⟨mg, mb, t⟩ := top.t
  have X : (KK w).In s.heap := top.k.keeps hi
  refine codeAny_call_function (fd := fnOf name qual params body scope dV kV doc pm an cdv ct) (body := body) hA.room (X _ _ ho) rfl hco hgen rfl (codeRec_of X hcd) (hbind s hi _ _ _ _ ?_)
  refine wpAny_newFunctionEnv_cells hk (kindsX hkind _) fun env he s' x => ?_
  refine ⟨(t.nolimit.keeps hi).keeps x.toInCall.keep, codeAny_func ?_⟩
  have he' : env = envOfC qual scope s.heap.objs.size f cdv := he
  have lo : ∀ b o, G.get? b = some o → b < s.heap.objs.size := fun b o e => Heap.lt_size (hi b o e)
  have offb : ∀ a, s.heap.objs.size ≤ a → G.get? a = none := fun a ha => by
    cases q : G.get? a with
    | none => rfl
    | some o => exact absurd (lo a o q) (Nat.not_lt.mpr ha)
  have hL : s.heap.objs.size ≤ env.locals := x.toInCall.fresh
  have hC : ∀ n c, env.cells.lookup n = some c → s.heap.objs.size ≤ c := fun n c hc => Nat.le_of_lt (Nat.lt_of_le_of_lt hL (x.above n c (mem_of_lookup hc)))
  have ke : ∀ n, env.kindOf n = scope.names.lookup n := fun n => by rw [he]; rfl
  have cells : ∀ p ∈ lc, ∃ c, env.cells.lookup p.1 = some c := fun p hp => by
    rcases kindsX hkind (s.heap.objs.size + 1) p (hlc p hp).1 with q | ⟨_, q⟩
    · rw [(hlc p hp).2] at q; cases q
    · rw [he]; exact Option.isSome_iff_exists.mp q
  have F : Fm w env G s'.heap l lc :=
    ⟨top, by rw [he]; exact hk, by rw [he]; rfl, by rw [he]; rfl, ⟨_, x.toInCall.ns, fun p hp => bindL_mem hnd (hl p hp).1 ((ke _).trans (hl p hp).2)⟩, fun n c hc => ⟨_, x.cell n c hc⟩,
      fun p hp => let ⟨c, hc⟩ := cells p hp; ⟨c, hc, by have q := x.cell _ c hc; rwa [bindC_mem hnd (hlc p hp).1 ((ke _).trans (hlc p hp).2)] at q⟩, x.apart, offb _ hL, fun n c hc => offb _ (hC n c hc), fun b o e => x.toInCall.keep b o (hi b o e),
      let ⟨H, a, b, c⟩ := base_of top hi; ⟨H, Nat.le_trans a hL, b, c⟩⟩
  have ex : Ext [] G s.heap G s'.heap := ⟨fun b o _ e => x.toInCall.keep b o e, fun b o e => ⟨o, x.toInCall.keep b o e⟩, fun _ _ e => e, fun _ o e => .inl ⟨o, e⟩, F.into⟩
  obtain ⟨h', tk, he2⟩ := x.toInCall.same
  have g : GO s s' := by rw [he2]; exact GO.same rfl rfl
  have z := bd (A.deeper env) env s'.heap (hA.deeper env) he' F (fun _ => ⟨.inr (dead_of hL), fun n c hc => .inr (dead_of (hC n c hc))⟩) ex s₀ s' h0 rfl (g0.trans g) (e0.weak ex fun a m => by cases m)
  refine wpAny_mono z ?_ fun _ _ f => f.elim
  rintro fl s'' ⟨G', e', g', p⟩
  cases fl <;> exact ⟨G', e', g', p⟩

/-! ## own objects -/
variable {x K : Addr} {m : Str → Option Value} {name : Str}
theorem T_attrOwn {v : Value} {attr : Option Value} {e : Bool} (top : TopG w G) (I : In G h → Ins h x K m) (hm : m name = some v) (ha : findIn (KK w) (.ref K) name = some attr) (p : P v G h) (hv : handedIn v = true := by rfl)
    (hn : noGet (KK w) attr = true := by kernel_rfl) (hg : plainGet (KK w) K name = true := by kernel_rfl) (hh : hasDictIn (KK w) K = true := by kernel_rfl) : T W prog w A (getAttr (.ref x) name e) G h P := fun s hs hi => by
  subst hs
  obtain ⟨dx, od, I, _, hl⟩ := (I hi).at_
  exact get_value (top.k.keeps hi) I (plainGet_of hg).1 (findObj_own hh ha hn ((hl name).trans (by rw [hm]))) hv ⟨G, Ext.refl hi, GO.same rfl rfl, p⟩
theorem T_methodOwn {P : Value × List Value → Heap → Heap → Prop} {f : Addr} {pl : Sem Bool} (top : TopG w G) (I : In G h → Ins h x K m) (hm : m name = none) (hf : findIn (KK w) (.ref K) name = some (some (.ref f))) (p : P (.ref f, [.ref x]) G h)
    (ht : isFn (KK w) (.ref f) = true := by kernel_rfl) (hg : plainGet (KK w) K name = true := by kernel_rfl) : T W prog w A (getMethod (.ref x) name pl) G h P := fun s hs hi => by
  subst hs
  obtain ⟨dx, od, I, _, hl⟩ := (I hi).at_
  exact method_fn (top.k.keeps hi) I (plainGet_of hg).1 (plainGet_of hg).2 hf (beq_iff_eq.mp ht) (by show (lookIn name od).map _ = _; rw [hl name, hm]; rfl) ⟨G, Ext.refl hi, GO.refl _, p⟩
theorem T_methodAttr {P : Value × List Value → Heap → Heap → Prop} {v : Value} {pl : Sem Bool} (top : TopG w G) (I : In G h → Ins h x K m) (hm : m name = some v) (ha : findIn (KK w) (.ref K) name = some none) (p : P (v, []) G h) (hv : handedIn v = true := by rfl)
    (hg : plainGet (KK w) K name = true := by kernel_rfl) (hh : hasDictIn (KK w) K = true := by kernel_rfl) : T W prog w A (getMethod (.ref x) name pl) G h P := fun s hs hi => by
  have z := T_attrOwn (W := W) (prog := prog) (w := w) (A := A) (G := G) (h := h) (e := false) (P := fun v G h => P (v, []) G h) top I hm ha p hv (by rfl) hg hh
  subst hs
  obtain ⟨dx, od, I, _, hl⟩ := (I hi).at_
  have hcan := PySem.F.canon_object_ga
  unfold getMethod specialOf
  refine wpAny_bind (wpAny_bind (I.type.here ((looks_findIn (top.k.keeps hi) (plainGet_of hg).1).here ?_)))
  dsimp only
  rw [hcan, if_neg (by decide)]
  refine wpAny_bind (wpAny_bind (I.type.here ((looks_findIn (top.k.keeps hi) (plainGet_of hg).2).here ?_)))
  refine wpAny_bind (wpAny_bind (I.type.here ((looks_findIn (top.k.keeps hi) ha).here ?_)))
  exact wpAny_bind (z.run rfl hi fun a s1 G1 e1 g1 p => wpAny_pure ⟨G1, e1, g1, p⟩)
theorem CB_inst {f : Addr} {a : Args} (top : TopG w G) (I : In G h → Ins h x K m) (hs : findIn (KK w) (.ref K) "__call__" = some (some (.ref f))) (y : CB W prog w A G₀ h₀ (.call (.ref f) { a with pos := .ref x :: a.pos }) G h P)
    (hf : isFn (KK w) (.ref f) = true := by kernel_rfl) (hfn : fnIn (KK w) f = true := by kernel_rfl) : CB W prog w A G₀ h₀ (.call (.ref x) a) G h P := fun s₀ s h0 hs' g e => by
  have z := y s₀ s h0 hs' g e
  subst hs'
  obtain ⟨dx, od, I, _, hl⟩ := (I e.into).at_
  exact kco_code (top.k.keeps e.into) I rfl hs hf hfn z
theorem T_binOwn {env : Env} {mf cm : List (Str × Value)} {f : Addr} {op : Operator} {b : Value} (F : Fm w env G h mf cm) (I : In G h → Ins h x K m) (hb : In G h → Looks (model prog w) h (typeOf b) (.ref K))
    (hs : findIn (KK w) (.ref K) (PySem.dunder op.info.2) = some (some (.ref f)))
    (y : T W prog w A (call (.ref f) [.ref x, b]) G h (fun v G' h' => v ≠ .notImplemented ∧ P v G' h')) (hc : selfFirst (KK w) K = true := by kernel_rfl) (hf : isFn (KK w) (.ref f) = true := by kernel_rfl) :
    T W prog w A (binaryOp op (.ref x) b) G h P := fun s hs' hi => by
  have z := y s hs' hi
  subst hs'
  obtain ⟨dx, od, I, _, hl⟩ := (I hi).at_
  obtain ⟨H, _, fr, X⟩ := F.fr
  refine binop_K fr X I (hb hi) hc hs hf (wpAny_mono z (fun v s' y => ?_) fun _ _ z => z)
  obtain ⟨G', e, g, n, p⟩ := y
  cases v <;> first | exact ⟨G', e, g, p⟩ | exact (n rfl).elim
theorem T_cmpOwn {env : Env} {mf cm : List (Str × Value)} {f : Addr} {b tb : Value} {d : Nat} (hA : Rm A d) (F : Fm w env G h mf cm) (I : In G h → Ins h x K m) (hb : In G h → Looks (model prog w) h (typeOf b) tb)
    (hs : findIn (KK w) (.ref K) (cmpInfo .Eq).2.1 = some (some (.ref f))) (hn : notFirst (KK w) K tb = true)
    (y : T W prog w A (call (.ref f) [.ref x, b]) G h (fun v G' h' => v ≠ .notImplemented ∧ P v G' h')) (hf : isFn (KK w) (.ref f) = true := by kernel_rfl) :
    T W prog w A (compareOp .Eq (.ref x) b) G h P := fun s hs' hi => by
  have z := y s hs' hi
  subst hs'
  obtain ⟨dx, od, I, _, hl⟩ := (I hi).at_
  obtain ⟨H, _, fr, X⟩ := F.fr
  refine cmp_K (op := .Eq) hA.croom fr X I (hb hi) hn hs hf (wpAny_mono z (fun v s' y => ?_) fun _ _ z => z)
  obtain ⟨G', e, g, n, p⟩ := y
  cases v <;> first | exact ⟨G', e, g, p⟩ | exact (n rfl).elim
theorem T_subOwn {env : Env} {mf cm : List (Str × Value)} {f : Addr} {i : Value} {value slice : Expr} (F : Fm w env G h mf cm) (I : In G h → Ins h x K m)
    (hs : findIn (KK w) (.ref K) "__getitem__" = some (some (.ref f)))
    (y : T W prog w A.in1 (call (.ref f) [.ref x, i]) G h P) (hf : fnIn (KK w) f = true := by kernel_rfl) (hfn : isFn (KK w) (.ref f) = true := by kernel_rfl)
    (hsl : subscripted slice true (.ref x) i = runValue (.builtin "lifetime.subscript" ⟨[.ref x, i], []⟩) := by with_unfolding_all rfl) :
    T W prog w A (subscriptTail value slice (.ref x) i) G h P := fun s hs' hi => by
  have z := y s hs' hi
  subst hs'
  obtain ⟨dx, od, I, _, hl⟩ := (I hi).at_
  obtain ⟨H, _, fr, X⟩ := F.fr
  exact sub_K fr X I hs hf hfn z hsl
/-- a small namespace -/
def NsK (H : Heap) (a : Addr) (m : Str → Option Value) (k : Nat) : Prop := ∃ o es ep, H.get? a = some o ∧ o.data = .dict es ep ∧ StrKeys es ∧ (∀ name, nsFind es name = m name) ∧ es.size ≤ k
theorem NsK.ns {H : Heap} {a : Addr} {m : Str → Option Value} {k : Nat} (x : NsK H a m k) : H.Ns a m := let ⟨o, es, ep, a, b, c, d, _⟩ := x; ⟨o, es, ep, a, b, c, d⟩
theorem NsK.at {H H' : Heap} {a : Addr} {m : Str → Option Value} {k : Nat} (x : NsK H a m k) (e : ∀ o, H.get? a = some o → H'.get? a = some o) : NsK H' a m k := let ⟨o, es, ep, a, b⟩ := x; ⟨o, es, ep, e _ a, b⟩
theorem putName_small {H : Heap} {a : Addr} {m : Str → Option Value} {k : Nat} {v key : Value} {name : Str} {hsh : Int} (x : NsK H a m k) (hkey : ∃ t, key = .str name t) : NsK (H.update a (Obj.putName name hsh key v)) a (fun y => if y = name then some v else m y) (k + 1) := by
  obtain ⟨o, es, ep, ho, hd, hk, hm, hz⟩ := x
  obtain ⟨tk, rfl⟩ := hkey
  obtain ⟨c, d, dt, sl⟩ := o
  subst hd
  cases hi : es.findIdx? (·.key.isStr name) with
  | some i =>
    refine ⟨_, _, ep, Heap.get?_update_self _ ho (by simp only [Obj.putName_eq, Obj.putNameByArray, hi]; rfl), by simp only [Obj.putName_eq, Obj.putNameByArray, hi]; rfl, hk.modify _ _, fun x => ?_, ?_⟩
    · show _ = if x = name then some v else m x
      rw [← hm]; exact findBy_modify (fun n v => v.isStr n) Value.isStr_inj es name x v i hi
    · rw [Array.size_modify]; omega
  | none =>
    refine ⟨_, _, ep + 1, Heap.get?_update_self _ ho (by simp only [Obj.putName_eq, Obj.putNameByArray, hi]; rfl), by simp only [Obj.putName_eq, Obj.putNameByArray, hi]; rfl, hk.push _ _ _ _, fun x => ?_, ?_⟩
    · show _ = if x = name then some v else m x
      rw [← hm]
      exact findBy_push (fun n v => v.isStr n) es name x _ _ v (fun y => by
        show (name == y) = decide (y = name)
        by_cases h : y = name
        · subst h; simp
        · have : ¬ name = y := fun e => h e.symm
          simp [h, this]) hi
    · rw [Array.size_push]; omega
/-- a field is stored in an own namespace -/
theorem B_setOwn {P : Unit → Heap → Heap → Prop} {dx : Addr} {v : Value} {k : Nat} (top : TopG w G) (hx : h.get? x = some (instObj K dx)) (hn : NsK h dx m k) (hz : k ≤ 100) (hoff : G.get? dx = none) (hW : dx ∈ W ∨ Dead h₀ dx)
    (p : ∀ h', NsK h' dx (fun y => if y = name then some v else m y) (k + 1) → Heap.SameBut dx h h' → In G h' → P () G h')
    (hs : findIn (KK w) (.ref K) "__setattr__" = some (some (.builtin "object.__setattr__")) := by kernel_rfl) (hp : plainOver (KK w) K = true := by kernel_rfl) (ht : takerIn (KK w) K name = some none := by kernel_rfl) (hh : hasDictIn (KK w) K = true := by kernel_rfl) :
    B W prog w A G₀ h₀ (setAttr (.ref x) name v) G h P := fun s₀ s h0 hs' g e => by
  subst hs'
  have X : (KK w).In s.heap := top.k.keeps e.into
  obtain ⟨od, es, n, ho, hd, hk, hf, hsz⟩ := id hn
  have I : InstAt s.heap x (instObj K dx) K (some od) := ⟨hx, rfl, rfl, ho⟩
  refine set_plain X I hs (osa_open (s := { s with toks := s.toks + 1 }) X I hp ht fun b => ?_)
  obtain ⟨cd, hc, hd'⟩ := any_some hh
  dsimp only
  refine wpAny_bind (wpAny_pure (wpAny_bind (wpAny_bind (wpAny_loadPart hx (wpAny_bind (Looks.here (s := { s with toks := s.toks + 1 }) (looks_clsIn X hc) ?_))))))
  rw [hd']
  refine wpAny_pure (a := some dx) (wpAny_bind (wpAny_pure (wpAny_bind ?_)))
  unfold nsSet
  refine wpAny_bind (wpAny_bind (wpAny_askSetting (wpAny_pure (wpAny_bind (wpAny_mkText (wpAny_bind (wpAny_loadPart ho ?_)))))))
  rw [hd]
  dsimp only
  have hany : es.any (·.refKey) = false := by
    rw [Array.any_eq_false']; intro e he; obtain ⟨n, t, h⟩ := hk e he; simp [DictEntry.refKey, h]
  have c : (!es.any (·.key.isStr name) && es.any (·.refKey)) = false := by rw [hany, Bool.and_false]
  rw [aRefKeyMayBeTheName_at, c]
  have q := putName_small (H := s.heap) (hsh := PyData.keyHash w.params name) (key := .str name (s.toks + 1)) (v := v) (name := name) hn ⟨_, rfl⟩
  have sb : Heap.SameBut dx s.heap (s.heap.update dx (Obj.putName name (PyData.keyHash w.params name) (.str name (s.toks + 1)) v)) := Heap.SameBut.update ..
  refine wpAny_updatePart ho ?_
  obtain ⟨o', es', ep', D', hd2, _, _, hz2⟩ := id q
  refine wpAny_bind (wpAny_lookBehind D' (by rw [hd2]; exact pastItsLine_dict (by rw [sizeLine_eq]; omega)) ?_)
  refine wpAny_pure ?_
  have x := e.upd sb.extBut hW ⟨_, D'⟩ hoff
  exact ⟨G, x, ⟨g.os, g.gens⟩, p _ q sb x.into⟩
end
end
section
theorem fill : PySem.Challenge.rw_yi0068_01 = PySem.Challenge.rw_yi0068_01 ∧ hd.heap_39 = hd.heap_39 := by
  k_fill
  exact ⟨rfl, rfl⟩

def strKeysB (es : Array DictEntry) : Bool := es.toList.all fun e => match e.key with | .str _ _ => true | _ => false
theorem strKeys_of {es : Array DictEntry} (e : strKeysB es = true) : StrKeys es := fun d hd => by
  have := List.all_eq_true.mp e d (Array.mem_toList_iff.mpr hd)
  cases q : d.key with
  | str n t => exact ⟨n, t, rfl⟩
  | _ => rw [q] at this; cases this
theorem ns_of_K {K : Frag} {h : Heap} {N : Addr} {c : Value} {d : Option Addr} {es : Array DictEntry} {n : Nat} {sl : Array (Option Value)} (X : K.In h) (e : K.lookup N = some ⟨c, d, .dict es n, sl⟩) (hs : strKeysB es = true) : h.Ns N (nsFind es) :=
  ⟨_, es, n, X _ _ e, rfl, strKeys_of hs, fun _ => rfl⟩
theorem cmpInst_mk {h : Heap} {x C dx : Addr} {nm q : Str} {N : Addr} {bs bm : List Value} {hdct : Bool} {sn : List Str} {sub : List Value} {ab : Bool} {col : Option Bool} {dd : Option Addr} {k0 k1 k2 k3 k5 : Option Value} {newId : String} {mN : Str → Option Value}
    (hx : h.get? x = some (instObj C dx)) (hC : h.get? C = some (excClassObj nm q C N bs bm hdct sn sub ab col dd k0 k1 k2 k3 k5 newId)) (hn : h.Ns N mN) (h1 : mN "__eq__" = none) (h2 : mN "__ne__" = none) : h.CmpInst x C bm :=
  ⟨_, nm, q, N, bs, hdct, sn, sub, ab, col, dd, k0, k1, k2, k3, k5, newId, mN, hx, rfl, hC, hn, h1, h2⟩

section
variable {W : List Addr} {prog : Program} {w : World} {A : Around} {G h G₀ h₀ : Heap} {P : Value → Heap → Heap → Prop} {c : Code} {x K : Addr} {m : Str → Option Value} {name : Str} {d : Nat}

/-- the two parents of two matrices are one -/
theorem T_neParent (hA : Rm A (d + 1)) (top : TopG w G) (I : In G h → Ins h x 377 m) (p : P (.bool false) G h) : T W prog w A (compareOp .NotEq (.ref x) (.ref x)) G h P := fun s hs hi => by
  subst hs
  obtain ⟨hh, g, dr, t, os⟩ := s
  have X : (KK w).In hh := top.k.keeps hi
  obtain ⟨dx, hx, _⟩ := I hi
  unfold KK at X
  refine' compareOp_ne_same PySem.F.cmp_object (cmpInst_mk hx (X _ _ ?k1) (ns_of_K X ?k2 ?k3) ?k4 ?k5) ?k6 ⟨G, Ext.refl hi, GO.refl _, p⟩
  case k1 => k_is
  case k2 => k_is
  case k3 => kernel_rfl
  case k4 => kernel_rfl
  case k5 => kernel_rfl
  case k6 => have := hA.units; unfold cLine; omega

theorem T_type (I : In G h → Ins h x K m) (p : P (.ref K) G h) : T W prog w A (call (.type "type") [.ref x] []) G h P := fun s hs hi => by
  subst hs
  obtain ⟨dx, od, I, _⟩ := (I hi).at_
  exact kto_own I ⟨G, Ext.refl hi, GO.refl _, p⟩
theorem T_isiOwn (top : TopG w G) (I : In G h → Ins h x K m) (p : P (.bool true) G h) (e : isIn (KK w) (.ref K) K = true := by kernel_rfl) : T W prog w A (call (.builtin "isinstance") [.ref x, .ref K] []) G h P := fun s hs hi => by
  subst hs
  obtain ⟨dx, od, I, _⟩ := (I hi).at_
  exact isi_call (top.k.keeps hi) (fun M => I.type) e (by intro q; cases q) ⟨G, Ext.refl hi, GO.refl _, p⟩
theorem T_isiIntOwn {n : Int} {u : Tok} (top : TopG w G) (p : P (.bool false) G h) (e : isNotIn (KK w) "int" K = true := by kernel_rfl) : T W prog w A (call (.builtin "isinstance") [.int n u, .ref K] []) G h P := fun s hs hi => by
  subst hs
  exact isn_call (P := fun _ => True) (top.k.keeps hi) (fun M => Looks.of_pure rfl) e (by intro q; cases q) trivial int_cls ⟨G, Ext.refl hi, GO.same rfl rfl, p⟩
theorem T_isiIntInt {n : Int} {u : Tok} (p : P (.bool true) G h) : T W prog w A (call (.builtin "isinstance") [.int n u, .type "int"] []) G h P := fun s hs hi => by
  subst hs; exact IsiPair.int_int ⟨G, Ext.refl hi, GO.refl _, p⟩
theorem T_isiListInt {v : Value} {n : Nat} {Q : Nat → Value → Prop} (l : LP G v n Q) (p : P (.bool false) G h) : T W prog w A (call (.builtin "isinstance") [v, .type "int"] []) G h P := fun s hs hi => by
  subst hs
  obtain ⟨a, vs, rfl, ⟨k, e⟩, _⟩ := l
  exact IsiPair.list_int (hi _ _ e) rfl ⟨G, Ext.refl hi, GO.same rfl rfl, p⟩
theorem T_isiListList {v : Value} {n : Nat} {Q : Nat → Value → Prop} (l : LP G v n Q) (p : P (.bool true) G h) : T W prog w A (call (.builtin "isinstance") [v, .type "list"] []) G h P := fun s hs hi => by
  subst hs
  obtain ⟨a, vs, rfl, ⟨k, e⟩, _⟩ := l
  exact IsiPair.list_list (hi _ _ e) rfl ⟨G, Ext.refl hi, GO.refl _, p⟩
/-- a tuple -/
def TAt (H : Heap) (a : Addr) (vs : List Value) : Prop := ∃ n, H.get? a = some { cls := .type "tuple", data := .seq vs.toArray n }
theorem TAt.keeps {H H' : Heap} {a : Addr} {vs : List Value} (x : TAt H a vs) (k : ∀ b o, H.get? b = some o → H'.get? b = some o) : TAt H' a vs := let ⟨n, e⟩ := x; ⟨n, k _ _ e⟩
theorem TAt.isTup {H : Heap} {a : Addr} {vs : List Value} (x : TAt H a vs) : IsTup H a vs.toArray := let ⟨n, e⟩ := x; ⟨_, e, rfl, n, rfl⟩
theorem T_isiTup {a : Addr} {vs : List Value} (l : TAt G a vs) (p : P (.bool true) G h) : T W prog w A (call (.builtin "isinstance") [.ref a, .type "tuple"] []) G h P := fun s hs hi => by
  subst hs
  obtain ⟨k, e⟩ := l
  exact IsiPair.tuple_tuple (hi _ _ e) rfl ⟨G, Ext.refl hi, GO.refl _, p⟩
theorem T_neTup {a b : Addr} {vs us : List Value} {ns ms : List Int} (ha : TAt G a vs) (hb : TAt G b us) (ia : IntsAre vs ns) (ib : IntsAre us ms) (hu : A.units + 64 < cLine) (p : P (.bool (!decide (ns = ms))) G h) : T W prog w A (compareOp .NotEq (.ref a) (.ref b)) G h P := fun s hs hi => by
  subst hs
  obtain ⟨n, ha⟩ := ha.keeps hi
  obtain ⟨n', hb⟩ := hb.keeps hi
  have ra : Reads s.heap (.ref a) (.tuple (ns.map PyData.int)) [] := Reads.tuple ha rfl rfl (by simpa using readsAll_of_ints ia)
  have rb : Reads s.heap (.ref b) (.tuple (ms.map PyData.int)) [] := Reads.tuple hb rfl rfl (by simpa using readsAll_of_ints ib)
  have sh : ∀ l : List Int, PySem.SeqAt.shaped (.tuple (l.map PyData.int)) = true := fun l => by
    have h1 := PySem.W.depthAll_ints l
    have h2 : PyData.depth (.tuple (l.map PyData.int)) ≤ 64 := by simp only [PyData.depth]; omega
    show (PyData.canLay0 (.tuple (l.map PyData.int)) && decide (PyData.depth (.tuple (l.map PyData.int)) ≤ 64)) = true
    rw [Bool.and_eq_true]
    exact ⟨by simp only [PyData.canLay0]; exact canLayAll0_ints l, decide_eq_true h2⟩
  exact ne_dataH_same ra rb (sh ns) (sh ms) hu (by simp only [PySem.SeqAt.noMix]; exact noMix_ints ns ms) (by simp only [PySem.Spec.same]; rw [same_ints]; exact ⟨G, Ext.refl hi, GO.refl _, p⟩)
end
end
section
theorem Rm.make {A : Around} {d : Nat} (x : Rm A (d + 1)) (K : Addr) (vals : List Value) (kw : List (Str × Value)) : Rm (A.under (.builtin "type.__call__" ⟨.ref K :: vals, kw⟩)) d :=
  ⟨x.hd, by have := x.depth; show A.depth + 1 + _ ≤ _; omega, by
    have := x.units
    have e : (A.under (.builtin "type.__call__" ⟨.ref K :: vals, kw⟩)).units ≤ A.units + 10 := by
      show A.units + _ ≤ _
      exact Nat.add_le_add_left (Nat.le_of_ble_eq_true rfl) _
    omega⟩

theorem Ext.freeze {W : List Addr} {G₀ h₀ G h : Heap} {a : Addr} {o : Obj} (e : Ext W G₀ h₀ G h) (ho : h.get? a = some o) (ha : Dead h₀ a) (hoff : G.get? a = none) (hf : o.isFreed = false) : Ext W G₀ h₀ (addAt G a o) h := by
  refine ⟨e.keep, e.live, fun b o' q => ?_, fun b o' q => ?_, fun b o' q => ?_⟩
  · rw [addAt_get hf, if_neg]; exact e.sub b o' q
    rintro rfl; rw [e.sub _ _ q] at hoff; cases hoff
  · rw [addAt_get hf] at q
    by_cases hb : b = a
    · exact .inr (hb ▸ ha)
    · rw [if_neg hb] at q; exact e.fresh _ _ q
  · rw [addAt_get hf] at q
    by_cases hb : b = a
    · rw [if_pos hb] at q; cases q; rw [hb]; exact ho
    · rw [if_neg hb] at q; exact e.into _ _ q
theorem sub_addAt {G : Heap} {a : Addr} {o : Obj} (hf : o.isFreed = false) (hoff : G.get? a = none) : ∀ b o', G.get? b = some o' → (addAt G a o).get? b = some o' := fun b o' q => by
  rw [addAt_get hf, if_neg]; exact q
  rintro rfl; rw [q] at hoff; cases hoff
theorem off_of {G h : Heap} (hi : In G h) {a : Addr} (ha : h.objs.size ≤ a) : G.get? a = none := by
  cases q : G.get? a with
  | none => rfl
  | some o => exact absurd (Heap.lt_size (hi _ _ q)) (Nat.not_lt.mpr ha)

section
variable {W : List Addr} {prog : Program} {w : World} {A : Around} {G h G₀ h₀ : Heap} {P : Value → Heap → Heap → Prop} {c : Code} {x K : Addr} {m : Str → Option Value} {name : Str} {d : Nat}
theorem C_make {rest : List Value} {kw : List (Str × Value)} {fI : Addr} (hA : Rm A (d + 1)) (top : TopG w G) (hi : findIn (KK w) (.ref K) "__init__" = some (some (.ref fI)))
    (bd : ∀ A' x dx h₁, Rm A' d → Ext W G h G h₁ → Dead h dx → Dead h x → h₁.get? x = some (instObj K dx) → NsK h₁ dx (fun _ => none) 0 → G.get? dx = none → G.get? x = none →
      CB W prog w A' G h (.call (.ref fI) ⟨.ref x :: rest, kw⟩) G h₁ (fun v G' h' => v = .none ∧ G'.get? x = none ∧ G'.get? dx = none ∧ ∃ m, h'.get? x = some (instObj K dx) ∧ h'.Ns dx m ∧
        ∀ G'', (∀ b o, G'.get? b = some o → G''.get? b = some o) → Ext W G h G'' h' → Ins G'' x K m → P (.ref x) G'' h'))
    (hm : makesIn (KK w) K = true := by kernel_rfl) (hf : typeIn (KK w) (.ref fI) = some (.type "function") := by kernel_rfl) : C W prog w A (.call (.ref K) ⟨rest, kw⟩) G h P := fun s₀ s h0 hs g e => by
  subst hs
  have X : (KK w).In s.heap := top.k.keeps e.into
  obtain ⟨hh, gg, dr, t, os⟩ := s
  have k1 : ∀ b o, hh.get? b = some o → ((hh.push emptyDict).push (instObj K hh.objs.size)).get? b = some o := fun b o e => Heap.get?_push_of_some _ (Heap.get?_push_of_some _ e)
  have hx : ((hh.push emptyDict).push (instObj K hh.objs.size)).get? (hh.objs.size + 1) = some (instObj K hh.objs.size) := by
    have := Heap.get?_push_size (hh.push emptyDict) (o := instObj K hh.objs.size) rfl
    rwa [Heap.size_push] at this
  have hdx : ((hh.push emptyDict).push (instObj K hh.objs.size)).get? hh.objs.size = some emptyDict := Heap.get?_push_of_some _ (Heap.get?_push_size _ rfl)
  have ex : Ext W G hh G ((hh.push emptyDict).push (instObj K hh.objs.size)) := ⟨fun b o _ q => k1 b o q, fun b o q => ⟨o, k1 b o q⟩, fun _ _ q => q, fun _ o q => .inl ⟨o, q⟩, fun b o q => k1 b o (e.into b o q)⟩
  have nk : NsK ((hh.push emptyDict).push (instObj K hh.objs.size)) hh.objs.size (fun _ => none) 0 := ⟨_, #[], 0, hdx, rfl, (fun e he => by simp at he), (fun _ => rfl), Nat.le_refl _⟩
  have z := bd (A.under (.builtin "type.__call__" ⟨.ref K :: rest, kw⟩)) (hh.objs.size + 1) hh.objs.size _ (hA.make K rest kw) ex (dead_of (Nat.le_refl _)) (dead_of (Nat.le_succ _)) hx nk (off_of e.into (Nat.le_refl _)) (off_of e.into (Nat.le_succ _))
  refine make_core (makes_of X hm) (looks_findIn X hi) (fun self => bind_fn X self hf) (.inl rfl) ?_
  refine CB.run z h0 rfl (g.trans (GO.same rfl rfl)) ex fun v s' G' e' g' p => ?_
  obtain ⟨rfl, ox, od, m, hx', ⟨o, es, ep, ho, hd, hk, hf'⟩, p⟩ := p
  have nf : o.isFreed = false := by obtain ⟨_, _, dd, _⟩ := o; cases hd; rfl
  have e2 : Ext W G hh (addAt G' hh.objs.size o) s'.heap := e'.freeze ho (dead_of (Nat.le_refl _)) od nf
  have ox2 : (addAt G' hh.objs.size o).get? (hh.objs.size + 1) = none := by rw [addAt_get nf, if_neg (Nat.succ_ne_self _)]; exact ox
  have e3 := e2.freeze hx' (dead_of (Nat.le_succ _)) ox2 rfl
  refine ⟨rfl, _, e3, g', p _ (fun b o' q => sub_addAt rfl ox2 _ _ (sub_addAt nf od _ _ q)) e3 ⟨_, addAt_self rfl, o, es, ep, ?_, hd, hk, hf'⟩⟩
  exact sub_addAt rfl ox2 _ _ (addAt_self nf)
theorem T_prop {f p : Addr} {rest : List Value} {ex : Bool} (top : TopG w G) (I : In G h → Ins h x K m) (hm : m name = none) (ha : findIn (KK w) (.ref K) name = some (some (.ref p))) (hp : recIn (KK w) p "property" = some (.ref f :: rest))
    (y : C W prog w A.in1 (.call (.ref f) ⟨[.ref x], []⟩) G h (fun v G' h' => handedIn v = true ∧ P v G' h'))
    (hg : plainGet (KK w) K name = true := by kernel_rfl) (hh : hasDictIn (KK w) K = true := by kernel_rfl)
    (hn : specialIn (KK w) (.ref p) "__get__" = some (some (.builtin "property.__get__")) := by kernel_rfl) (ht : takesIn (KK w) (.ref p) = some true := by kernel_rfl) : T W prog w A (getAttr (.ref x) name ex) G h P := fun s hs hi => by
  subst hs
  have X : (KK w).In s.heap := top.k.keeps hi
  obtain ⟨dx, od, I, _, hl⟩ := (I hi).at_
  refine get_bind X I (plainGet_of hg).1 (findObj_data (by obtain ⟨cd, hc, _⟩ := any_some hh; rw [hc]; rfl) ha hn ht) (plainGet_of hg).2 (wpAny_call (prop_get (s := { s with toks := s.toks + 1 }) X hp ?_))
  refine CB.run (y) (s₀ := { s with toks := s.toks + 1 }) rfl rfl (GO.refl _) (Ext.refl hi) fun v s' G' e' g' p => ?_
  show wpAny _ _ (handedOut v) _ _ _
  rw [handedOut_of p.1]
  exact wpAny_pure ⟨G', e', ⟨g'.os, g'.gens⟩, p.2⟩
end
end
section
/-- what can be gone through: a list, a range -/
def Iter (prog : Program) (w : World) (G : Heap) (xv : Value) (n : Nat) (Pv : Nat → Value → Prop) : Prop :=
  ∀ (A : Around) (s : Shared) (Q : Value → Shared → Prop) (E : Value → Shared → Prop), A.handled = none → In G s.heap →
    (∀ I o fp (St : Nat → Heap → Prop), Dead s.heap I → (s.heap.push o).get? I = some o → (∀ B : Around, B.handled = none → Walks prog w B I fp [I] n Pv St) → St 0 (s.heap.push o) → (∀ b ∈ fp, b ≠ I → ∃ o, G.get? b = some o) → (∀ i h, St i h → ∃ o, h.get? I = some o) →
      Q (.ref I) { s with heap := s.heap.push o }) → wpAny (model prog w) A (pyIter xv) Q E s
theorem Walks.imp {prog : Program} {w : World} {A : Around} {I : Addr} {fp wr : List Addr} {n : Nat} {P P' : Nat → Value → Prop} {St : Nat → Heap → Prop} (x : Walks prog w A I fp wr n P St) (h : ∀ i v, i < n → P i v → P' i v) : Walks prog w A I fp wr n P' St where
  sub := x.sub
  frame := x.frame
  item := fun i s Q E hi st hQ => x.item i s Q E hi st fun v h' tk hp => hQ v h' tk (h i v hi hp)
  done := x.done
  self := x.self
theorem Iter.list {prog : Program} {w : World} {G : Heap} {v : Value} {n : Nat} {P : Nat → Value → Prop} (x : LP G v n P) : Iter prog w G v n P := fun A s Q E hA hi hQ => by
  obtain ⟨a, vs, rfl, hl, rfl, hp⟩ := x
  refine wpAny_pyIter_list (hl.keeps hi).isList ?_
  have hne : a ≠ s.heap.objs.size := fun e => by
    obtain ⟨k, q⟩ := hl
    have := Heap.lt_size (hi _ _ q)
    rw [e] at this; exact Nat.lt_irrefl _ this
  refine hQ s.heap.objs.size _ [s.heap.objs.size, a] (fun i h => h.IsListIter s.heap.objs.size a i ∧ h.IsList a vs.toArray) (dead_of (Nat.le_refl _)) (Heap.get?_push_size _ rfl) (fun B hB => ?_) (And.intro ?_ ?_) (fun b hb hn => ?_) (fun i h st => ?_)
  · have := Walks.list (prog := prog) (w := w) hB s.heap.objs.size a hne vs.toArray
    rw [List.size_toArray] at this
    exact Walks.imp this fun i v hi e => hp i v (by simpa using e)
  · exact ⟨_, Heap.get?_push_size _ rfl, rfl, rfl⟩
  · exact ((hl.keeps hi).keeps fun b o e => Heap.get?_push_of_some _ e).isList
  · simp at hb
    rcases hb with rfl | rfl
    · exact absurd rfl hn
    · obtain ⟨k, q⟩ := hl; exact ⟨_, q⟩
  · obtain ⟨⟨o, e, _⟩, _⟩ := st; exact ⟨o, e⟩
def RAt (H : Heap) (v : Value) (a b : Int) : Prop := ∃ r t u k, v = .ref r ∧ IsRange H r a b 1 t u k
theorem Iter.range {prog : Program} {w : World} {G : Heap} {v : Value} {a b : Int} (x : RAt G v a b) (ha : -1000 ≤ a) (ha' : a ≤ 1000) (hb : -1000 ≤ b) (hb' : b ≤ 1000) : Iter prog w G v (b - a).toNat (fun i x => ∃ t, x = .int (a + (i : Int)) t) := fun A s Q E hA hi hQ => by
  obtain ⟨r, t, u, k, rfl, hr⟩ := x
  refine wpAny_pyIter_range (hi _ _ hr) (small_one (by omega) (by omega) (by omega) (by omega)) ?_
  refine hQ s.heap.objs.size _ [s.heap.objs.size] (fun i h => IsRangeIter h s.heap.objs.size (a + (i : Nat) * 1) (((b - a).toNat : Int) - (i : Nat)) 1) (dead_of (Nat.le_refl _)) (Heap.get?_push_size _ rfl) (fun B hB => ?_) ?_ (fun b hb hn => ?_) (fun i h st => ⟨_, st⟩)
  · exact Walks.imp (Walks.range (prog := prog) (w := w) hB s.heap.objs.size a 1 (b - a).toNat) fun i v hi ⟨t, e⟩ => ⟨t, by rw [e, Int.mul_one]⟩
  · have e : Builtin.Range.rangeSize a b 1 = ((b - a).toNat : Int) := by rw [rangeSize_one]; split <;> omega
    show (s.heap.push _).get? _ = _
    rw [e, Heap.get?_push_size _ rfl]
    simp [rawInt]
  · simp at hb; exact absurd hb hn

section
variable {W : List Addr} {prog : Program} {w : World} {A : Around} {G h G₀ h₀ : Heap} {env : Env}
theorem T_range1 {P : Value → Heap → Heap → Prop} {n : Int} {t : Tok} (p : ∀ v G' h', RAt G' v 0 n → Ext W G h G' h' → P v G' h') : T W prog w A (call (.type "range") [.int n t] []) G h P := fun s hs hi => by
  subst hs
  exact call_range_1 ⟨_, Ext.push hi rfl, GO.same rfl rfl, p _ _ _ ⟨_, _, _, _, rfl, addAt_self rfl⟩ (Ext.push hi rfl)⟩
theorem T_range2 {P : Value → Heap → Heap → Prop} {a n : Int} {t u : Tok} (p : ∀ v G' h', RAt G' v a n → Ext W G h G' h' → P v G' h') : T W prog w A (call (.type "range") [.int a t, .int n u] []) G h P := fun s hs hi => by
  subst hs
  exact call_range_2 ⟨_, Ext.push hi rfl, GO.same rfl rfl, p _ _ _ ⟨_, _, _, _, rfl, addAt_self rfl⟩ (Ext.push hi rfl)⟩

/-- a loop: J is what holds ahead of turn i; V are the objects that a turn may change -/
theorem B_For {P : Flow → Heap → Heap → Prop} {x : Str} {px pos : Pos} {iter : Expr} {body : List Stmt} (V : List Addr) (hA : A.handled = none)
    (y : T [] prog w A (eval iter env) G h (fun xv G1 h1 => ∃ n Pv, ∃ J : Nat → Heap → Heap → Prop, Iter prog w G1 xv n Pv ∧ J 0 G1 h1 ∧
      (∀ a ∈ V, (∃ o, h1.get? a = some o) ∧ (a ∈ W ∨ Dead h₀ a)) ∧
      (∀ i Ga ha hb, J i Ga ha → (∀ b o, (∃ o', h1.get? b = some o') → ha.get? b = some o → hb.get? b = some o) → In Ga hb → J i Ga hb) ∧
      (∀ i Ga ha v, i < n → Pv i v → J i Ga ha → (∀ b o, G1.get? b = some o → Ga.get? b = some o) →
        B V prog w A Ga ha (storeName env x v) Ga ha (fun _ Gb hb => B V prog w A Ga ha (execs body env) Gb hb (fun fl Gc hc => match fl with
          | .next | .cont => J (i + 1) Gc hc
          | .brk => P .next Gc hc
          | .ret v => P (.ret v) Gc hc))) ∧
      (∀ Ga ha, J n Ga ha → (∀ b o, G1.get? b = some o → Ga.get? b = some o) → P .next Ga ha)))
    (hs : ∀ x, foldedSetIterable iter env x = pure x := by intro _; rfl) : B W prog w A G₀ h₀ (exec (.For (.Name x px) iter body [] pos) env) G h P := fun s₀ s h0 hs' g e => by
  refine wpAny_For ((B_of_T0 y).run h0 hs' g e fun xv s1 G1 e1 g1 z => ?_) hs
  obtain ⟨n, Pv, J, it, j0, hV, hst, turn, fin⟩ := z
  refine it A s1 _ _ hA e1.into fun I o fp St hI hIo hwk hSt hfp hlv => ?_
  have offI : ∀ G' h', Ext W G₀ h₀ G' h' → True := fun _ _ _ => trivial
  have exP : Ext W G₀ h₀ G1 (s1.heap.push o) := ⟨fun b o' n q => Heap.get?_push_of_some _ (e1.keep b o' n q), fun b o' q => let ⟨o'', q'⟩ := e1.live b o' q; ⟨o'', Heap.get?_push_of_some _ q'⟩, e1.sub, e1.fresh, fun b o' q => Heap.get?_push_of_some _ (e1.into b o' q)⟩
  have dI : Dead h₀ I := e1.dead hI
  have offG1 : G1.get? I = none := by
    cases q : G1.get? I with
    | none => rfl
    | some o' => have := e1.into _ _ q; rw [show s1.heap.get? I = none from hI] at this; cases this
  have IV : I ∉ V := fun m => by obtain ⟨⟨o', q⟩, _⟩ := hV I m; rw [show s1.heap.get? I = none from hI] at q; cases q
  refine codeAny_forLoop (fun k s' => ∃ i Ga, k = n - i ∧ i ≤ n ∧ J i Ga s'.heap ∧ St i s'.heap ∧ Ext W G₀ h₀ Ga s'.heap ∧ GO s₀ s' ∧ Ga.get? I = none ∧ (∀ b o, G1.get? b = some o → Ga.get? b = some o) ∧ (∀ b o', s1.heap.get? b = some o' → ∃ o'', s'.heap.get? b = some o'')) ?_ n ?_
  · rintro k s' ⟨i, Ga, rfl, hi, hJ, hst', e', g', oI, sub, lv⟩
    have wk := hwk A hA
    rcases Nat.lt_or_ge i n with lt | ge
    · refine wk.item i s' _ _ lt hst' fun v h' tk hv hst2 hk => ?_
      have hk' : ∀ b o, b ≠ I → s'.heap.get? b = some o → h'.get? b = some o := fun b o hb q => hk b o (by simpa using hb) q
      have e2 : Ext W G₀ h₀ Ga h' := e'.upd hk' (.inr dI) (hlv _ _ hst2) oI
      have j2 : J i Ga h' := hst i Ga s'.heap h' hJ (fun b o ⟨o', q'⟩ q => hk' b o (fun z => by rw [z, show s1.heap.get? I = none from hI] at q'; cases q') q) e2.into
      have lv2 : ∀ b o', s1.heap.get? b = some o' → ∃ o'', h'.get? b = some o'' := fun b o' q => by
        obtain ⟨o'', q2⟩ := lv b o' q
        exact ⟨o'', hk' b o'' (fun z => by rw [z, show s1.heap.get? I = none from hI] at q; cases q) q2⟩
      have t := turn i Ga h' v lt hv j2 sub
      refine wpAny_assign_Name ?_
      refine wpAny_mono (t { s' with heap := h', toks := tk } { s' with heap := h', toks := tk } rfl rfl (GO.refl _) (Ext.refl e2.into)) ?_ fun _ _ z => z.elim
      rintro _ s3 ⟨Gb, eb, gb, t2⟩
      refine wpAny_mono (t2 { s' with heap := h', toks := tk } s3 rfl rfl gb eb) ?_ fun _ _ z => z.elim
      rintro fl s4 ⟨Gc, ec, gc, p⟩
      have wV : ∀ a ∈ V, a ∈ W ∨ Dead h₀ a := fun a m => (hV a m).2
      have e4 : Ext W G₀ h₀ Gc s4.heap := e2.weak ec wV
      have g4 : GO s₀ s4 := g'.trans ⟨gc.os, gc.gens⟩
      obtain ⟨oI', qI⟩ := hlv _ _ hst2
      have keepI : s4.heap.get? I = some oI' := ec.keep I oI' IV qI
      have again : ∀ (q : J (i + 1) Gc s4.heap), ∃ m, m < n - i ∧ ∃ i' Ga, m = n - i' ∧ i' ≤ n ∧ J i' Ga s4.heap ∧ St i' s4.heap ∧ Ext W G₀ h₀ Ga s4.heap ∧ GO s₀ s4 ∧ Ga.get? I = none ∧ (∀ b o, G1.get? b = some o → Ga.get? b = some o) ∧ (∀ b o', s1.heap.get? b = some o' → ∃ o'', s4.heap.get? b = some o'') := fun q => by
        refine ⟨n - (i + 1), by omega, i + 1, Gc, rfl, lt, q, ?_, e4, g4, ?_, fun b o z => ec.sub b o (sub b o z), fun b o' z => ?_⟩
        · refine wk.frame _ _ _ hst2 fun b hb o' q' => ?_
          by_cases hbI : b = I
          · subst hbI; exact ec.keep _ _ IV q'
          · obtain ⟨o'', z⟩ := hfp b hb hbI
            have z1 := ec.into _ _ (ec.sub _ _ (sub _ _ z))
            have z2 := e2.into _ _ (sub _ _ z)
            rw [z2] at q'; cases q'; exact z1
        · exact off_ext ec oI ⟨_, qI⟩
        · obtain ⟨o'', z2⟩ := lv2 b o' z
          exact ec.live b o'' z2
      cases fl with
      | next => exact again p
      | cont => exact again p
      | brk => exact ⟨Gc, e4, g4, p⟩
      | ret v => exact ⟨Gc, e4, g4, p⟩
    · obtain rfl : i = n := by omega
      refine wk.done s' _ _ hst' fun h' tk hk => ?_
      have hk' : ∀ b o, b ≠ I → s'.heap.get? b = some o → h'.get? b = some o := fun b o hb q => hk b o (by simpa using hb) q
      have e2 : Ext W G₀ h₀ Ga h' := ⟨fun b o n q => hk' b o (fun z => by subst z; rw [show h₀.get? b = none from dI] at q; cases q) (e'.keep b o n q), fun b o q => by
          obtain ⟨o', q'⟩ := e'.live b o q
          exact ⟨o', hk' b o' (fun z => by subst z; rw [show h₀.get? b = none from dI] at q; cases q) q'⟩, e'.sub, e'.fresh, fun b o q => hk' b o (fun z => by subst z; rw [oI] at q; cases q) (e'.into b o q)⟩
      have j2 : J i Ga h' := hst i Ga s'.heap h' hJ (fun b o ⟨o', q'⟩ q => hk' b o (fun z => by rw [z, show s1.heap.get? I = none from hI] at q'; cases q') q) e2.into
      exact wpAny_execs_nil ⟨Ga, e2, g'.trans (GO.same rfl rfl), fin Ga h' j2 sub⟩
  · refine ⟨0, G1, rfl, Nat.zero_le _, ?_, hSt, exP, g1.trans (GO.same rfl rfl), offG1, fun _ _ q => q, fun b o' q => ⟨o', Heap.get?_push_of_some _ q⟩⟩
    exact hst 0 G1 s1.heap _ j0 (fun b o _ q => Heap.get?_push_of_some _ q) exP.into
/-- the same; what is asked behind a turn is not shown -/
theorem B_ForK {P : Flow → Heap → Heap → Prop} {x : Str} {px pos : Pos} {iter : Expr} {body : List Stmt} (V : List Addr) (hA : A.handled = none)
    (y : T [] prog w A (eval iter env) G h (fun xv G1 h1 => ∃ n Pv, ∃ J : Nat → Heap → Heap → Prop, Iter prog w G1 xv n Pv ∧ J 0 G1 h1 ∧
      (∀ a ∈ V, (∃ o, h1.get? a = some o) ∧ (a ∈ W ∨ Dead h₀ a)) ∧
      (∀ i Ga ha hb, J i Ga ha → (∀ b o, (∃ o', h1.get? b = some o') → ha.get? b = some o → hb.get? b = some o) → In Ga hb → J i Ga hb) ∧
      (∀ i Ga ha v, i < n → Pv i v → J i Ga ha → (∀ b o, G1.get? b = some o → Ga.get? b = some o) → ∀ Q : Flow → Heap → Heap → Prop, (∀ Gc hc, J (i + 1) Gc hc → Q .next Gc hc) →
        B V prog w A Ga ha (storeName env x v) Ga ha (fun _ Gb hb => B V prog w A Ga ha (execs body env) Gb hb Q)) ∧
      (∀ Ga ha, J n Ga ha → (∀ b o, G1.get? b = some o → Ga.get? b = some o) → P .next Ga ha)))
    (hs : ∀ x, foldedSetIterable iter env x = pure x := by intro _; rfl) : B W prog w A G₀ h₀ (exec (.For (.Name x px) iter body [] pos) env) G h P :=
  B_For V hA (y.mono fun xv G1 h1 _ zz => by
    obtain ⟨n, Pv, J, it, j0, hV, hst, turn, fin⟩ := zz
    exact ⟨n, Pv, J, it, j0, hV, hst, fun i Ga ha v a b c d => turn i Ga ha v a b c d _ (fun _ _ q => q), fin⟩) hs
end
end
section
/-! ## the frame of a comprehension -/
def closOf (cells : List (Str × Addr)) : List (Str × NameKind) → List (Str × Addr) → List (Str × Addr)
  | [], acc => acc
  | (n, k) :: r, acc => if k == .free then closOf cells r ((n, (cells.lookup n).getD 0) :: acc) else closOf cells r acc
def freeOk (cells : List (Str × Addr)) (names : List (Str × NameKind)) : Bool := names.all fun p => p.2 != .free || (cells.lookup p.1).isSome
def noName (names : List (Str × NameKind)) (x : Str) : Bool := names.all fun p => p.1 != x
def onceAll : List (Str × NameKind) → Bool
  | [] => true
  | p :: r => noName r p.1 && onceAll r
theorem noName_of {l : List (Str × NameKind)} {x : Str} (e : noName l x = true) : ∀ p ∈ l, p.1 ≠ x := fun p hp => by
  have := List.all_eq_true.mp e p hp
  simpa using this
theorem once_lookup : ∀ {names : List (Str × NameKind)} {n : Str} {k : NameKind}, onceAll names = true → (n, k) ∈ names → names.lookup n = some k
  | [], _, _, _, h => by cases h
  | (a, b) :: r, n, k, hn, h => by
    obtain ⟨h1, h2⟩ := Bool.and_eq_true_iff.mp hn
    rcases List.mem_cons.mp h with e | h
    · cases e; simp [List.lookup_cons]
    · have : (n == a) = false := by
        rw [beq_eq_false_iff_ne]; exact noName_of h1 (n, k) h
      rw [List.lookup_cons, this]; exact once_lookup h2 h
theorem closOf_mem {cells : List (Str × Addr)} : ∀ {names : List (Str × NameKind)} {acc : List (Str × Addr)} {p : Str × Addr}, freeOk cells names = true → p ∈ closOf cells names acc → p ∈ acc ∨ ((p.1, NameKind.free) ∈ names ∧ cells.lookup p.1 = some p.2)
  | [], acc, p, _, h => .inl h
  | (n, k) :: r, acc, p, ok, h => by
    obtain ⟨h1, h2⟩ := Bool.and_eq_true_iff.mp (show ((_ : Bool) && r.all _) = true from ok)
    unfold closOf at h
    split at h
    · rename_i hk
      have hk' : k = .free := by cases k <;> first | rfl | exact absurd hk (by decide)
      subst hk'
      rcases closOf_mem h2 h with h | ⟨a, b⟩
      · rcases List.mem_cons.mp h with e | h
        · subst e
          refine .inr ⟨List.mem_cons_self, ?_⟩
          have : (cells.lookup n).isSome = true := by simpa using h1
          obtain ⟨c, hc⟩ := Option.isSome_iff_exists.mp this
          simp [hc]
        · exact .inl h
      · exact .inr ⟨List.mem_cons_of_mem _ a, b⟩
    · rcases closOf_mem h2 h with h | ⟨a, b⟩
      · exact .inl h
      · exact .inr ⟨List.mem_cons_of_mem _ a, b⟩
theorem closOf_has {cells : List (Str × Addr)} {n : Str} {c : Addr} (hc : cells.lookup n = some c) : ∀ {names : List (Str × NameKind)} {acc : List (Str × Addr)}, ((n, NameKind.free) ∈ names ∨ (n, c) ∈ acc) → (n, c) ∈ closOf cells names acc
  | [], acc, h => h.elim (fun h => by cases h) id
  | (a, k) :: r, acc, h => by
    unfold closOf
    split
    · refine closOf_has hc ?_
      rcases h with h | h
      · rcases List.mem_cons.mp h with e | h
        · cases e; refine .inr ?_; rw [hc]; exact List.mem_cons_self
        · exact .inl h
      · exact .inr (List.mem_cons_of_mem _ h)
    · rename_i hk
      refine closOf_has hc ?_
      rcases h with h | h
      · rcases List.mem_cons.mp h with e | h
        · cases e; exact absurd rfl hk
        · exact .inl h
      · exact .inr h
theorem closOf_apart {cells : List (Str × Addr)} (hp : cells.Pairwise fun x y => x.2 ≠ y.2) : ∀ {names : List (Str × NameKind)} {acc : List (Str × Addr)}, onceAll names = true → freeOk cells names = true → acc.Pairwise (fun x y => x.2 ≠ y.2) →
    (∀ p ∈ acc, cells.lookup p.1 = some p.2 ∧ ∀ q ∈ names, q.1 ≠ p.1) → (closOf cells names acc).Pairwise fun x y => x.2 ≠ y.2
  | [], acc, _, _, h, _ => h
  | (n, k) :: r, acc, on, ok, h, ha => by
    obtain ⟨h1, h2⟩ := Bool.and_eq_true_iff.mp (show ((_ : Bool) && r.all _) = true from ok)
    obtain ⟨o1, o2⟩ := Bool.and_eq_true_iff.mp on
    unfold closOf
    split
    · rename_i hk
      have hk' : k = .free := by cases k <;> first | rfl | exact absurd hk (by decide)
      subst hk'
      have : (cells.lookup n).isSome = true := by simpa using h1
      obtain ⟨c, hc⟩ := Option.isSome_iff_exists.mp this
      rw [hc]
      refine closOf_apart hp o2 h2 (List.pairwise_cons.mpr ⟨fun p hm e => ?_, h⟩) fun p hm => ?_
      · have q := (ha p hm).1
        have e : c = p.2 := e
        exact (ha p hm).2 (n, .free) List.mem_cons_self (name_of_addr hp (mem_of_lookup hc) (e ▸ mem_of_lookup q))
      · rcases List.mem_cons.mp hm with rfl | hm
        · exact ⟨hc, noName_of o1⟩
        · exact ⟨(ha p hm).1, fun q hq => (ha p hm).2 q (List.mem_cons_of_mem _ hq)⟩
    · exact closOf_apart hp o2 h2 h fun p hm => ⟨(ha p hm).1, fun q hq => (ha p hm).2 q (List.mem_cons_of_mem _ hq)⟩
theorem closureFor_eq {scope : Scope} {env : Env} (ok : freeOk env.cells scope.names = true) : closureFor scope env = pure (closOf env.cells scope.names []) := by
  unfold closureFor
  have go : ∀ (names : List (Str × NameKind)) (acc : List (Str × Addr)), freeOk env.cells names = true →
      (forIn names acc fun (p : Str × NameKind) (cs : List (Str × Addr)) => if (p.2 == .free) = true then (do let a ← cellOf env p.1; pure (ForInStep.yield ((p.1, a) :: cs))) else (pure (ForInStep.yield cs) : Sem _)) = (pure (closOf env.cells names acc) : Sem _) := fun names => by
    induction names with
    | nil => intro acc _; rw [List.forIn_nil]; rfl
    | cons p r ih =>
      intro acc ok
      obtain ⟨n, k⟩ := p
      obtain ⟨h1, h2⟩ := Bool.and_eq_true_iff.mp (show ((_ : Bool) && r.all _) = true from ok)
      rw [List.forIn_cons]
      dsimp only
      unfold closOf
      by_cases hk : (k == NameKind.free) = true
      · rw [if_pos hk, if_pos hk]
        have hk' : k = .free := by cases k <;> first | rfl | exact absurd hk (by decide)
        subst hk'
        have : (env.cells.lookup n).isSome = true := by simpa using h1
        obtain ⟨c, hc⟩ := Option.isSome_iff_exists.mp this
        have e : cellOf env n = pure c := by unfold cellOf; rw [hc]
        rw [e, hc]
        exact ih ((n, c) :: acc) h2
      · rw [if_neg hk, if_neg hk]
        exact ih acc h2
  have := go scope.names [] ok
  first
    | exact this
    | (show (forIn scope.names [] _ >>= fun cs => pure cs) = _; rw [this]; rfl)
theorem cellsFrom_append (names : List (Str × NameKind)) : ∀ (k : Nat) (acc cl : List (Str × Addr)), cellsFrom k names (acc ++ cl) = cellsFrom k names acc ++ cl := by
  induction names with
  | nil => intro k acc cl; rfl
  | cons p r ih =>
    intro k acc cl
    obtain ⟨n, kd⟩ := p
    unfold cellsFrom
    split
    · exact ih (k + 1) ((n, k) :: acc) cl
    · exact ih k acc cl
theorem cellsFrom_mem : ∀ {names : List (Str × NameKind)} {k : Nat} {acc : List (Str × Addr)} {p : Str × Addr}, p ∈ cellsFrom k names acc → p ∈ acc ∨ (p.1, NameKind.cell) ∈ names
  | [], _, _, _, h => .inl h
  | (n, kd) :: r, k, acc, p, h => by
    unfold cellsFrom at h
    split at h
    · rename_i hk
      have hk' : kd = .cell := by cases kd <;> first | rfl | exact absurd hk (by decide)
      subst hk'
      rcases cellsFrom_mem h with h | h
      · rcases List.mem_cons.mp h with e | h
        · subst e; exact .inr List.mem_cons_self
        · exact .inl h
      · exact .inr (List.mem_cons_of_mem _ h)
    · rcases cellsFrom_mem h with h | h
      · exact .inl h
      · exact .inr (List.mem_cons_of_mem _ h)

/-- the frame of a comprehension over e₀, its names at L -/
def compEnv (scope : Scope) (e₀ : Env) (L : Addr) : Env :=
  { scope := relabel scope e₀, locals := L, globals := e₀.globals, cells := cellsFrom (L + 1) scope.names (closOf e₀.cells scope.names []), qual := e₀.qual, func := none, code := e₀.code, frame := e₀.frame, builtins := e₀.builtins }
def compOk (scope : Scope) (e₀ : Env) : Bool := onceAll scope.names && freeOk e₀.cells scope.names && scope.kind == .function
theorem lookup_append_none {α : Type} : ∀ {a b : List (Str × α)} {n : Str}, a.lookup n = none → (a ++ b).lookup n = b.lookup n
  | [], _, _, _ => rfl
  | (k, v) :: r, b, n, h => by
    rw [List.lookup_cons] at h
    rw [List.cons_append, List.lookup_cons]
    cases q : n == k with
    | true => rw [q] at h; cases h
    | false => rw [q] at h; exact lookup_append_none h
theorem lookup_append_some {α : Type} : ∀ {a b : List (Str × α)} {n : Str} {v : α}, a.lookup n = some v → (a ++ b).lookup n = some v
  | [], _, _, _, h => by cases h
  | (k, w) :: r, b, n, v, h => by
    rw [List.lookup_cons] at h
    rw [List.cons_append, List.lookup_cons]
    cases q : n == k with
    | true => rw [q] at h; exact h
    | false => rw [q] at h; exact lookup_append_some h
theorem lookup_none_of {α : Type} : ∀ {a : List (Str × α)} {n : Str}, (∀ p ∈ a, p.1 ≠ n) → a.lookup n = none
  | [], _, _ => rfl
  | (k, v) :: r, n, h => by
    rw [List.lookup_cons]
    have : (n == k) = false := by rw [beq_eq_false_iff_ne]; exact fun e => h (k, v) List.mem_cons_self e.symm
    rw [this]; exact lookup_none_of fun p hp => h p (List.mem_cons_of_mem _ hp)
theorem lookup_of_mem {α : Type} : ∀ {a : List (Str × α)} {n : Str} {v : α}, (n, v) ∈ a → (∀ u, (n, u) ∈ a → u = v) → a.lookup n = some v
  | [], _, _, h, _ => by cases h
  | (k, w) :: r, n, v, h, hu => by
    rw [List.lookup_cons]
    cases q : n == k with
    | true => have := beq_iff_eq.mp q; subst this; rw [hu w List.mem_cons_self]
    | false =>
      rcases List.mem_cons.mp h with e | h
      · cases e; simp at q
      · exact lookup_of_mem h fun u hm => hu u (List.mem_cons_of_mem _ hm)

section
variable {M : Model} {A : Around} {E : Value → Shared → Prop} {s : Shared}
theorem newCompEnv {scope : Scope} {env : Env} {cl : List (Str × Addr)} {Q : Env → Shared → Prop}
    (h : Q { scope := scope, locals := s.heap.objs.size, globals := env.globals, cells := cellsFrom (s.heap.objs.size + 1) scope.names cl, qual := env.qual, func := none, code := env.code, frame := env.frame, builtins := env.builtins }
      { s with heap := pushCells (s.heap.push { cls := .type "dict", data := .dict #[] }) scope.names }) :
    wpAny M A (newFunctionEnv scope env.globals cl [] env.qual none .none (some env)) Q E s := by
  simp only [newFunctionEnv, Option.isSome_some, if_true]
  refine wpAny_bind (wpAny_alloc ?_)
  refine wpAny_bind (wpAny_layCells _ (fun name kind cells => by cases hkc : kind == NameKind.cell <;> simp [hkc]) _ _ _ _ ?_)
  rw [List.forIn_nil]
  refine wpAny_bind (wpAny_pure (wpAny_pure ?_))
  rw [show ({ s with heap := s.heap.push { cls := .type "dict", data := .dict #[] } } : Shared).heap.objs.size = s.heap.objs.size + 1 from Heap.size_push ..]
  exact h
end
end
section
theorem lookup_relabel {env : Env} {k : NameKind} (hk : k ≠ .free) : ∀ {names : List (Str × NameKind)} {x : Str}, names.lookup x = some k →
    (names.map fun (n, k) => if (k == NameKind.free && env.scope.kind == .function && env.kindOf n == some .cell) then (n, NameKind.cell) else (n, k)).lookup x = some k
  | [], x, h => by simp at h
  | (n, k') :: r, x, h => by
    have ih := @lookup_relabel env k hk r x
    show List.lookup x ((if (k' == NameKind.free && env.scope.kind == .function && env.kindOf n == some .cell) = true then (n, NameKind.cell) else (n, k')) :: _) = _
    rw [List.lookup_cons] at h
    cases hx : x == n with
    | true =>
      rw [hx] at h
      cases h
      have kf : (k == NameKind.free) = false := by cases k <;> first | exact absurd rfl hk | rfl
      rw [if_neg (by rw [kf]; simp), List.lookup_cons, hx]
    | false =>
      rw [hx] at h
      by_cases hc : (k' == NameKind.free && env.scope.kind == .function && env.kindOf n == some .cell) = true
      · rw [if_pos hc, List.lookup_cons, hx]; exact ih h
      · rw [if_neg hc, List.lookup_cons, hx]; exact ih h


/-- the frame of a comprehension as it is made -/
theorem compFrame {w : World} {env e₀ : Env} {scope : Scope} {G h : Heap} {l lc lc' : List (Str × Value)} (F : Fm w env G h l lc) (hE : env = e₀) (ok : compOk scope e₀ = true) (hlc : ∀ p ∈ lc', p ∈ lc ∧ (p.1, NameKind.free) ∈ scope.names) :
    Fm w (compEnv scope e₀ h.objs.size) G (pushCells (h.push { cls := .type "dict", data := .dict #[] }) scope.names) [] lc' ∧ (∀ x c, (x, NameKind.cell) ∈ scope.names → (compEnv scope e₀ h.objs.size).cells.lookup x = some c → Dead h c) ∧
      (∀ x c, (compEnv scope e₀ h.objs.size).cells.lookup x = some c → Dead h c ∨ env.cells.lookup x = some c) ∧
      (∀ x, (x, NameKind.cell) ∈ scope.names → ((compEnv scope e₀ h.objs.size).cells.lookup x).isSome = true) := by
  subst hE
  obtain ⟨ok1, okk⟩ := Bool.and_eq_true_iff.mp ok
  obtain ⟨ok1, ok2⟩ := Bool.and_eq_true_iff.mp ok1
  have keeps : ∀ b o, h.get? b = some o → (pushCells (h.push { cls := .type "dict", data := .dict #[] }) scope.names).get? b = some o := fun b o e => pushCells_keeps _ _ b o (Heap.get?_push_of_some _ e)
  have own := cellsFrom_ok scope.names (h.push { cls := .type "dict", data := .dict #[] }) (h.objs.size + 1) [] ⟨fun _ _ hm => (nomatch hm), List.Pairwise.nil⟩ (by rw [Heap.size_push]; exact Nat.le_refl _)
  rw [Heap.size_push] at own
  have cc : (compEnv scope env h.objs.size).cells = cellsFrom (h.objs.size + 1) scope.names [] ++ closOf env.cells scope.names [] := by
    show cellsFrom _ _ (closOf env.cells scope.names []) = _
    rw [← cellsFrom_append]; rfl
  have clm : ∀ p ∈ closOf env.cells scope.names [], (p.1, NameKind.free) ∈ scope.names ∧ env.cells.lookup p.1 = some p.2 := fun p hp => (closOf_mem ok2 hp).elim (fun h => by cases h) id
  have split : ∀ n c, (compEnv scope env h.objs.size).cells.lookup n = some c → (n, c) ∈ cellsFrom (h.objs.size + 1) scope.names [] ∨ env.cells.lookup n = some c := fun n c hc => by
    rw [cc] at hc
    rcases List.mem_append.mp (mem_of_lookup hc) with m | m
    · exact .inl m
    · exact .inr (clm _ m).2
  have live : ∀ n c, env.cells.lookup n = some c → c < h.objs.size := fun n c hc => let ⟨v, x⟩ := F.cell n c hc; x.lt
  refine ⟨⟨F.top, beq_kind okk, F.glob, F.blt, ⟨_, (Heap.Ns.new h (.type "dict")).keeps (pushCells_keeps _ _), fun p hp => by cases hp⟩, fun n c hc => ?_, fun p hp => ?_, ?_, off_of F.into (Nat.le_refl _), fun n c hc => ?_, fun b o e => keeps b o (F.into b o e), ?_⟩, fun x c hx hc => ?_, fun x c hc => ?_, fun x hx => ?_⟩
  · rcases split n c hc with m | q
    · exact ⟨_, (own.empty n c m).1⟩
    · obtain ⟨v, x⟩ := F.cell n c q; exact ⟨v, isCell_at x (keeps c)⟩
  · obtain ⟨hp1, hp2⟩ := hlc p hp
    obtain ⟨c, hc, x⟩ := F.cellv p hp1
    refine ⟨c, ?_, isCell_at x (keeps c)⟩
    rw [cc, lookup_append_none]
    · refine lookup_of_mem (closOf_has hc (.inl hp2)) fun u hu => ?_
      have := (clm _ hu).2
      rw [hc] at this; cases this; rfl
    · refine lookup_none_of fun q hq e => ?_
      rcases cellsFrom_mem hq with m | m
      · cases m
      · have := once_lookup ok1 m
        rw [e, once_lookup ok1 hp2] at this; cases this
  · rw [cc]
    refine List.pairwise_append.mpr ⟨own.apart, closOf_apart F.apart ok1 ok2 .nil (fun p hp => by cases hp), fun a ha b hb e => ?_⟩
    have h1 := (own.empty a.1 a.2 ha).2
    have h2 := live _ _ (clm b hb).2
    rw [← e] at h2
    exact Nat.lt_irrefl _ (Nat.lt_trans h2 h1)
  · rcases split n c hc with m | q
    · exact off_of F.into (Nat.le_of_succ_le (own.empty n c m).2)
    · exact F.offC n c q
  · obtain ⟨H, a, b, c⟩ := F.base
    exact ⟨H, Nat.le_trans a (Nat.le_of_lt (let ⟨m, x, _⟩ := F.ns; x.lt)), b, c⟩
  · rcases split x c hc with m | q
    · exact dead_of (Nat.le_of_succ_le (own.empty x c m).2)
    · exfalso
      rw [cc] at hc
      rcases List.mem_append.mp (mem_of_lookup hc) with m | m
      · have h1 := (own.empty x c m).2
        have h2 := live _ _ q
        exact Nat.lt_irrefl _ (Nat.lt_trans h2 h1)
      · have := once_lookup ok1 (clm _ m).1
        rw [once_lookup ok1 hx] at this; cases this
  · rcases split x c hc with m | q
    · exact .inl (dead_of (Nat.le_of_succ_le (own.empty x c m).2))
    · exact .inr q
  · have has : ∀ (names : List (Str × NameKind)) (k : Nat) (acc : List (Str × Addr)), ((x, NameKind.cell) ∈ names ∨ ∃ c, (x, c) ∈ acc) → ∃ c, (x, c) ∈ cellsFrom k names acc := fun names => by
      induction names with
      | nil => exact fun k acc h => h.elim (fun h => by cases h) id
      | cons p r ih =>
        intro k acc h
        obtain ⟨n, kd⟩ := p
        unfold cellsFrom
        split
        · refine ih _ _ ?_
          rcases h with h | ⟨c, h⟩
          · rcases List.mem_cons.mp h with e | h
            · cases e; exact .inr ⟨_, List.mem_cons_self⟩
            · exact .inl h
          · exact .inr ⟨c, List.mem_cons_of_mem _ h⟩
        · rename_i hk
          refine ih _ _ ?_
          rcases h with h | ⟨c, h⟩
          · rcases List.mem_cons.mp h with e | h
            · cases e; exact absurd rfl hk
            · exact .inl h
          · exact .inr ⟨c, h⟩
    obtain ⟨c, hm⟩ := has scope.names (h.objs.size + 1) (closOf env.cells scope.names []) (.inl hx)
    cases q : (compEnv scope env h.objs.size).cells.lookup x with
    | some c => rfl
    | none =>
      exfalso
      have : ∀ (a : List (Str × Addr)), (x, c) ∈ a → a.lookup x = none → False := fun a => by
        induction a with
        | nil => intro h; cases h
        | cons p r ih =>
          intro h e
          rw [List.lookup_cons] at e
          cases z : x == p.1 with
          | true => rw [z] at e; cases e
          | false =>
            rw [z] at e
            rcases List.mem_cons.mp h with h | h
            · rw [← h] at z; simp at z
            · exact ih h e
      exact this _ hm q
where
  beq_kind {k : ScopeKind} (e : (k == ScopeKind.function) = true) : k = .function := by cases k <;> first | rfl | exact absurd e (by decide)

section
variable {W : List Addr} {prog : Program} {w : World} {A : Around} {G h G₀ h₀ : Heap} {env : Env} {l lc : List (Str × Value)}
/-- the name of a comprehension is given its value -/
theorem B_storeTurn {x : Str} {v : Value} {P : Unit → Heap → Heap → Prop} {scope : Scope} {e₀ : Env} {L : Addr} {lc' : List (Str × Value)} (F : Fm w (compEnv scope e₀ L) G h [] lc') (hL : Dead h₀ L) (hx : (x, NameKind.local) ∈ scope.names ∨ (x, NameKind.cell) ∈ scope.names) (on : onceAll scope.names = true)
    (hlc : ∀ p ∈ lc', (p.1, NameKind.free) ∈ scope.names)
    (hc : ∀ c, (x, NameKind.cell) ∈ scope.names → (compEnv scope e₀ L).cells.lookup x = some c → Dead h₀ c) (hs : (x, NameKind.cell) ∈ scope.names → ((compEnv scope e₀ L).cells.lookup x).isSome = true)
    (p : ∀ h', ((x, NameKind.local) ∈ scope.names → Fm w (compEnv scope e₀ L) G h' [(x, v)] lc') → ((x, NameKind.cell) ∈ scope.names → Fm w (compEnv scope e₀ L) G h' [] ((x, v) :: lc')) →
      (∃ a, (a = L ∨ (∃ c, (x, NameKind.cell) ∈ scope.names ∧ (compEnv scope e₀ L).cells.lookup x = some c ∧ a = c)) ∧ Heap.SameBut a h h') → P () G h') : B W prog w A G₀ h₀ (storeName (compEnv scope e₀ L) x v) G h P := by
  rcases hx with hx | hx
  · have q := once_lookup on hx
    refine B_storeL F (.inr hL) (lookup_relabel (by decide) q) rfl fun h' sb F' => p h' (fun _ => F') (fun h2 => ?_) ⟨L, .inl rfl, sb⟩
    rw [once_lookup on h2] at q; cases q
  · have q := once_lookup on hx
    refine B_storeC F (fun c e => .inr (hc c hx e)) (lookup_relabel (by decide) q) (hs hx) (List.all_eq_true.mpr fun p hp => ?_) fun c h' hcl sb F' => p h' (fun h2 => ?_) (fun _ => F') ⟨c, .inr ⟨c, hx, hcl, rfl⟩, sb⟩
    · have := once_lookup on (hlc p hp)
      rw [bne_iff_ne]; rintro rfl
      rw [q] at this; cases this
    · rw [once_lookup on h2] at q; cases q

/-- what one turn of a comprehension does -/
structure Turns (W : List Addr) (prog : Program) (w : World) (A : Around) (scope : Scope) (e₀ : Env) (lc' : List (Str × Value)) (x : Str) (elt : Expr) (G1 h1 : Heap) (xv : Value) (n : Nat) (Pv : Nat → Value → Prop) (St : Nat → Heap → Prop) (Fi : Nat → Value → Heap → Prop) : Prop where
  it : Iter prog w G1 xv n Pv
  small : n ≤ 1000
  st0 : St 0 h1
  stable : ∀ i ha hb, St i ha → (∀ a ∈ W, ∀ o, ha.get? a = some o → hb.get? a = some o) → St i hb
  live : ∀ a ∈ W, ∃ o, h1.get? a = some o
  mono : ∀ i y Ga Gb, Fi i y Ga → (∀ b o, Ga.get? b = some o → Gb.get? b = some o) → Fi i y Gb
  turn : ∀ i v L Ga ha, i < n → Pv i v → Ext W G1 h1 Ga ha → St i ha → ((x, NameKind.local) ∈ scope.names → Fm w (compEnv scope e₀ L) Ga ha [(x, v)] lc') → ((x, NameKind.cell) ∈ scope.names → Fm w (compEnv scope e₀ L) Ga ha [] ((x, v) :: lc')) → OffW W (compEnv scope e₀ L) →
    T W prog w A (eval elt (compEnv scope e₀ L)) Ga ha (fun u Gb hb => Fi i u Gb ∧ St (i + 1) hb)

/-- the list of a comprehension, not yet frozen -/
def Unf (W : List Addr) (G h H : Heap) (a : Addr) (n : Nat) (Fi : Nat → Value → Heap → Prop) (C : Addr) : Prop := ∃ Ga ys, Ext W G h Ga H ∧ Ga.get? a = none ∧ Dead h a ∧ LAt H a ys ∧ ys.length = n ∧ (∀ (j : Nat) (y : Value), ys[j]? = some y → Fi j y Ga) ∧ Ga.get? C = none ∧ a ≠ C
theorem comp_core {elt iter : Expr} {x : Str} {px pos ipos : Pos} {scope : Scope} {lc' : List (Str × Value)} {use : Option (Value → Sem Unit)} {Q : Value → Shared → Prop} (hA : A.handled = none) (F : Fm w env G h l lc) (hOW : OffW W env) (ok : compOk scope env = true)
    (hx : (x, NameKind.local) ∈ scope.names ∨ (x, NameKind.cell) ∈ scope.names) (hlc : ∀ p ∈ lc', p ∈ lc ∧ (p.1, NameKind.free) ∈ scope.names) (hs : ∀ x, foldedSetIterable iter env x = pure x)
    {s : Shared} (hh : s.heap = h) (hi : In G h)
    (y : T [] prog w A (eval iter env) G h (fun xv G1 h1 => ∃ n Pv St Fi, Turns W prog w A scope env lc' x elt G1 h1 xv n Pv St Fi ∧
      ∀ a Ga s' C, Ext W G1 h1 Ga s'.heap → Ext W G h Ga s'.heap → GO s s' → LP Ga (.ref a) n (fun i u => Fi i u Ga) → St n s'.heap → Dead h1 C → Ga.get? C = none → (∃ m, s'.heap.Ns C m) → Unf W G1 h1 s'.heap a n Fi C → compPost (model prog w) A (fun _ _ => False) use Q (.ref a) C (.ok .next) s')) :
    wpAny (model prog w) A (comprehension (.ListComp elt [⟨.Name x px, iter, [], 0⟩] scope pos) scope env ipos (newList []) false (eval iter env) use) Q (fun _ _ => False) s := by
  have okf : freeOk env.cells scope.names = true := (Bool.and_eq_true_iff.mp (Bool.and_eq_true_iff.mp ok).1).2
  have on : onceAll scope.names = true := (Bool.and_eq_true_iff.mp (Bool.and_eq_true_iff.mp ok).1).1
  have okk : scope.kind = .function := compFrame.beq_kind (Bool.and_eq_true_iff.mp ok).2
  refine wpAny_comprehension_free (g := ⟨.Name x px, iter, [], 0⟩) (gs := []) rfl hs (closureFor_eq okf) okk (fun p hp e => once_lookup on (by rw [← e]; exact hp)) ?_
  refine y.run hh hi fun xv s1 G1 e1 g1 z => ?_
  obtain ⟨n, Pv, St, Fi, t, fin⟩ := z
  refine t.it A s1 _ _ hA e1.into fun I o fp Sw hI hIo hwk hSw hfp hlv => ?_
  refine wpAny_newObj_type (newCompEnv ?_)
  dsimp only
  have wk := hwk A hA
  generalize hH1 : s1.heap.push o = H1 at hIo hSw
  have k1 : ∀ b o', s1.heap.get? b = some o' → H1.get? b = some o' := fun b o' e => hH1 ▸ Heap.get?_push_of_some _ e
  generalize hD : H1.objs.size = D
  generalize hH2 : H1.push { cls := .type "list", dict := none, data := .seq ([] : List Value).toArray } = H2
  have k2 : ∀ b o', H1.get? b = some o' → H2.get? b = some o' := fun b o' e => hH2 ▸ Heap.get?_push_of_some _ e
  have d2 : LAt H2 D [] := ⟨0, by rw [← hH2, ← hD]; exact Heap.get?_push_size _ rfl⟩
  have deadD : Dead s1.heap D := by
    cases q : s1.heap.get? D with
    | none => exact q
    | some o' => exact absurd (Heap.lt_size (k1 _ _ q)) (by rw [hD]; exact Nat.lt_irrefl _)
  have F2 : Fm w env G1 H2 l lc := (F.ext (W := []) e1).other (fun b o' _ e => k2 _ _ (k1 _ _ e)) (fun b o' e => k2 _ _ (k1 _ _ (e1.into _ _ e)))
  obtain ⟨F3, own, cls, hasC⟩ := compFrame (lc' := lc') F2 rfl ok hlc
  generalize hC : H2.objs.size = C at F3 own cls hasC
  generalize hH3 : pushCells (H2.push { cls := .type "dict", data := .dict #[] }) scope.names = H3 at F3
  have k3 : ∀ b o', H2.get? b = some o' → H3.get? b = some o' := fun b o' e => hH3 ▸ pushCells_keeps _ _ b o' (Heap.get?_push_of_some _ e)
  have dead12 : ∀ b, Dead H2 b → Dead s1.heap b := fun b d => by
    cases q : s1.heap.get? b with
    | none => exact q
    | some o' => have := k2 _ _ (k1 _ _ q); rw [show H2.get? b = none from d] at this; cases this
  have deadC2 : Dead H2 C := dead_of (Nat.le_of_eq hC)
  have deadC : Dead s1.heap C := dead12 C deadC2
  have liveI : ∃ o', H2.get? I = some o' := ⟨_, k2 _ _ hIo⟩
  have liveD : ∃ o', H2.get? D = some o' := let ⟨k, q⟩ := d2; ⟨_, q⟩
  have neDI : D ≠ I := fun e => by
    have := Heap.lt_size hIo
    rw [hD, e] at this; exact Nat.lt_irrefl _ this
  have neOf : ∀ b c, (∃ o', H2.get? b = some o') → Dead H2 c → b ≠ c := fun b c ⟨o', q⟩ d e => by subst e; rw [show H2.get? b = none from d] at q; cases q
  have cellNe : ∀ b, (b = C ∨ ∃ n, (compEnv scope env C).cells.lookup n = some b) → b ≠ I ∧ b ≠ D := fun b hb => by
    rcases hb with rfl | ⟨nn, hn⟩
    · exact ⟨(neOf _ _ liveI deadC2).symm, (neOf _ _ liveD deadC2).symm⟩
    · rcases cls nn b hn with d | q
      · exact ⟨(neOf _ _ liveI d).symm, (neOf _ _ liveD d).symm⟩
      · obtain ⟨v, x⟩ := (F.ext (W := []) e1).cell nn b q
        obtain ⟨o', x, _⟩ := x
        exact ⟨fun e => (by subst e; rw [show s1.heap.get? b = none from hI] at x; cases x), fun e => (by subst e; rw [show s1.heap.get? b = none from deadD] at x; cases x)⟩
  have offW : OffW W (compEnv scope env C) := fun a ha => by
    obtain ⟨o', q⟩ := t.live a ha
    refine ⟨fun e => ?_, fun nn c hn e => ?_⟩
    · have e : a = C := e
      subst e; rw [show s1.heap.get? a = none from deadC] at q; cases q
    · subst e
      rcases cls nn a hn with d | q'
      · rw [show s1.heap.get? a = none from dead12 a d] at q; cases q
      · exact (hOW a ha).2 nn a q' rfl
  have notW : ∀ a, Dead s1.heap a → a ∉ W := fun a d m => by obtain ⟨o', q⟩ := t.live a m; rw [show s1.heap.get? a = none from d] at q; cases q
  have offG : ∀ a, Dead s1.heap a → G1.get? a = none := fun a d => by
    cases q : G1.get? a with
    | none => rfl
    | some o' => have := e1.into _ _ q; rw [show s1.heap.get? a = none from d] at this; cases this
  have x3 : Ext W G1 s1.heap G1 H3 := ⟨fun b o' _ e => k3 _ _ (k2 _ _ (k1 _ _ e)), fun b o' e => ⟨o', k3 _ _ (k2 _ _ (k1 _ _ e))⟩, fun _ _ e => e, fun _ o' e => .inl ⟨o', e⟩, F3.into⟩
  have stW : ∀ i ha hb, St i ha → (∀ b o', b ∈ W → ha.get? b = some o' → hb.get? b = some o') → St i hb := fun i ha hb h1 h2 => t.stable i ha hb h1 fun a m o' q => h2 a o' m q
  have liveCells : ∀ {Ga H : Heap} (F : Fm w (compEnv scope env C) Ga H [] lc'), True := fun _ => trivial
  have loop : ∀ s4 : Shared, s4.heap = H3 → GO s1 s4 → codeAny (model prog w) A (.compLoop (.ListComp elt [⟨.Name x px, iter, [], 0⟩] scope pos) 0 (.ref I) (.ref D) (compEnv scope env C)) (compPost (model prog w) A (fun _ _ => False) use Q (.ref D) C) s4 := by
    intro s4 hs4 g4
    refine codeAny_compLoop_list (fun k s' => ∃ i Ga ys, k = n - i ∧ i ≤ n ∧ Sw i s'.heap ∧ Ext W G1 s1.heap Ga s'.heap ∧ GO s1 s' ∧ Fm w (compEnv scope env C) Ga s'.heap [] lc' ∧ LAt s'.heap D ys ∧ ys.length = i ∧
      (∀ (j : Nat) (y : Value), ys[j]? = some y → Fi j y Ga) ∧ St i s'.heap ∧ Ga.get? I = none ∧ Ga.get? D = none) ?_ n ?_
    · rintro k s' ⟨i, Ga, ys, rfl, hin, hsw, e', g', F', hl, hlen, hF, hSt, oI, oD⟩
      rcases Nat.lt_or_ge i n with lt | ge
      · refine wk.item i s' _ _ lt hsw fun v h' tk hv hsw2 hk => ?_
        have hk' : ∀ b o, b ≠ I → s'.heap.get? b = some o → h'.get? b = some o := fun b o hb q => hk b o (by simpa using hb) q
        have e2 : Ext W G1 s1.heap Ga h' := e'.upd hk' (.inr hI) (hlv _ _ hsw2) oI
        have F2' : Fm w (compEnv scope env C) Ga h' [] lc' := F'.other (fun b o hb q => hk' b o (cellNe b hb).1 q) e2.into
        have hl2 : LAt h' D ys := let ⟨k, q⟩ := hl; ⟨k, hk' _ _ neDI q⟩
        have hSt2 : St i h' := stW i _ _ hSt fun b o' m q => hk' b o' (fun e => notW I hI (e ▸ m)) q
        refine wpAny_assign_Name ?_
        refine wpAny_mono ((B_storeTurn (W := W) (v := v) (prog := prog) (A := A) (G₀ := G1) (h₀ := s1.heap) (P := fun _ Gx hx => Gx = Ga ∧ ((x, NameKind.local) ∈ scope.names → Fm w (compEnv scope env C) Ga hx [(x, v)] lc') ∧ ((x, NameKind.cell) ∈ scope.names → Fm w (compEnv scope env C) Ga hx [] ((x, v) :: lc')) ∧
          ∃ a, Dead H2 a ∧ Heap.SameBut a h' hx) F2' deadC hx on (fun p hp => (hlc p hp).2) (fun c m q => dead12 c (own x c m q)) (hasC x) ?_) s1 { s' with heap := h', toks := tk } rfl rfl ⟨g'.os, g'.gens⟩ e2) ?_ fun _ _ z => z.elim
        · rintro hx' p1 p2 ⟨a, ha, sb⟩
          refine ⟨rfl, p1, p2, a, ?_, sb⟩
          rcases ha with rfl | ⟨c, m, q, rfl⟩
          · exact deadC2
          · exact own x a m q
        rintro _ s5 ⟨Gx, e5, g5, rfl, f1, f2, a, da, sb⟩
        have hl5 : LAt s5.heap D ys := let ⟨k, q⟩ := hl2; ⟨k, sb.extBut _ _ (neOf _ _ liveD da) q⟩
        have hSt5 : St i s5.heap := stW i _ _ hSt2 fun b o' m q => sb.extBut b o' (fun e => notW a (dead12 a da) (e ▸ m)) q
        have hsw5 : Sw (i + 1) s5.heap := by
          refine wk.frame _ _ _ hsw2 fun b hb o' q' => ?_
          by_cases hbI : b = I
          · subst hbI; exact sb.extBut _ _ (neOf _ _ liveI da) q'
          · obtain ⟨o'', z⟩ := hfp b hb hbI
            have z1 := e5.into _ _ (e'.sub _ _ z)
            have z2 := e2.into _ _ (e'.sub _ _ z)
            rw [z2] at q'; cases q'; exact z1
        have tt := t.turn i v C Gx s5.heap lt hv e5 hSt5 f1 f2 offW
        refine wpAny_mono (tt s5 rfl e5.into) ?_ fun _ _ z => z.elim
        rintro u s6 ⟨Gb, e6, g6, hu, hSt6⟩
        have F5 : Fm w (compEnv scope env C) Gx s5.heap [] lc' := by
          rcases hx with m | m
          · exact (f1 m).weak (fun p hp => by cases hp) fun p hp => hp
          · exact (f2 m).weak (fun p hp => by cases hp) fun p hp => List.mem_cons_of_mem _ hp
        have F6 := F5.ext e6 offW
        have hl6 : LAt s6.heap D ys := let ⟨k, q⟩ := hl5; ⟨k, e6.keep _ _ (notW D deadD) q⟩
        have e16 : Ext W G1 s1.heap Gb s6.heap := e5.trans e6
        have hsw6 : Sw (i + 1) s6.heap := by
          refine wk.frame _ _ _ hsw5 fun b hb o' q' => ?_
          by_cases hbI : b = I
          · subst hbI; exact e6.keep _ _ (notW b hI) q'
          · obtain ⟨o'', z⟩ := hfp b hb hbI
            have z1 := e16.into _ _ (e16.sub _ _ z)
            have z2 := e5.into _ _ (e5.sub _ _ z)
            rw [z2] at q'; cases q'; exact z1
        have oI6 : Gb.get? I = none := off_ext e6 oI (hlv _ _ hsw5)
        have oD6 : Gb.get? D = none := off_ext e6 oD (let ⟨k, q⟩ := hl5; ⟨_, q⟩)
        refine wpAny_list_append_plain (items := ys.toArray) hl6 (fun h7 hl7 sb7 => ?_) (by rw [List.size_toArray, sizeLine_eq]; have := t.small; omega)
        have e7 : Ext W G1 s1.heap Gb h7 := e16.upd sb7.extBut (.inr deadD) (let ⟨k, q⟩ := hl7; ⟨_, q⟩) oD6
        refine ⟨n - (i + 1), by omega, i + 1, Gb, ys ++ [u], rfl, lt, ?_, e7, ⟨g5.os ▸ (g6.os), ?_⟩, F6.other (fun b o' hb q => sb7.extBut b o' (cellNe b hb).2 q) e7.into, ?_, by simp [hlen], fun j y q => ?_, ?_, oI6, oD6⟩
        · refine wk.frame _ _ _ hsw6 fun b hb o' q' => ?_
          by_cases hbI : b = I
          · subst hbI; exact sb7.extBut _ _ neDI.symm q'
          · obtain ⟨o'', z⟩ := hfp b hb hbI
            have z1 := e7.into _ _ (e7.sub _ _ z)
            have z2 := e16.into _ _ (e16.sub _ _ z)
            rw [z2] at q'; cases q'; exact z1
        · exact (g5.trans g6).gens
        · obtain ⟨k, q⟩ := hl7
          exact ⟨k, by rw [q]; simp⟩
        · rw [List.getElem?_append] at q
          split at q
          · exact t.mono j y _ _ (hF j y q) e6.sub
          · have : j = ys.length := by
              rename_i hj
              have := (List.getElem?_eq_some_iff.mp q).1
              simp at this; omega
            subst this
            simp at q; subst q
            rw [hlen]; exact hu
        · exact stW _ _ _ hSt6 fun b o' m q => sb7.extBut b o' (fun e => notW D deadD (e ▸ m)) q
      · obtain rfl : i = n := by omega
        refine wk.done s' _ _ hsw fun h' tk hk => ?_
        have hk' : ∀ b o, b ≠ I → s'.heap.get? b = some o → h'.get? b = some o := fun b o hb q => hk b o (by simpa using hb) q
        have e2 : Ext W G1 s1.heap Ga h' := ⟨fun b o n q => hk' b o (fun z => by subst z; rw [show s1.heap.get? b = none from hI] at q; cases q) (e'.keep b o n q), fun b o q => by
            obtain ⟨o', q'⟩ := e'.live b o q
            exact ⟨o', hk' b o' (fun z => by subst z; rw [show s1.heap.get? b = none from hI] at q; cases q) q'⟩, e'.sub, e'.fresh, fun b o q => hk' b o (fun z => by subst z; rw [oI] at q; cases q) (e'.into b o q)⟩
        obtain ⟨kk, ql⟩ := hl
        have ql' := hk' _ _ neDI ql
        have e3 := e2.freeze ql' deadD oD rfl
        have sub3 := sub_addAt (G := Ga) (a := D) (o := { cls := .type "list", data := .seq ys.toArray kk }) rfl oD
        have hCn : D ≠ C := neOf _ _ liveD deadC2
        refine fin D _ { s' with heap := h', toks := tk } C e3 (((Ext.refl hi).weak e1 (fun a m => by cases m)).trans e3) (g1.trans ⟨g'.os, g'.gens⟩) ⟨D, ys, rfl, ⟨kk, addAt_self rfl⟩, hlen, fun j y q => t.mono j y _ _ (hF j y q) sub3⟩ ?_ deadC ?_ ?_ ⟨Ga, ys, e2, oD, deadD, ⟨kk, ql'⟩, hlen, hF, F'.offL, hCn⟩
        · exact stW _ _ _ hSt fun b o' m q => hk' b o' (fun e => notW I hI (e ▸ m)) q
        · rw [addAt_get rfl, if_neg hCn.symm]; exact F'.offL
        · obtain ⟨m, a, _⟩ := F'.ns
          exact ⟨m, a.at' fun o' q => hk' _ o' (cellNe C (.inl rfl)).1 q⟩
    · refine ⟨0, G1, [], rfl, Nat.zero_le _, ?_, hs4 ▸ x3, g4, hs4 ▸ F3, ?_, rfl, (fun j y q => by simp at q), ?_, offG I hI, offG D deadD⟩
      · rw [hs4]; exact wk.frame _ _ _ hSw fun b _ o' q => k3 _ _ (k2 _ _ q)
      · rw [hs4]; obtain ⟨k, q⟩ := d2; exact ⟨k, k3 _ _ q⟩
      · rw [hs4]; exact stW _ _ _ t.st0 fun b o' _ q => k3 _ _ (k2 _ _ (k1 _ _ q))
  subst hC hD
  subst hH1 hH2
  subst hH3
  have g4 : GO s1 { s1 with heap := pushCells (((s1.heap.push o).push { cls := .type "list", dict := none, data := .seq ([] : List Value).toArray }).push { cls := .type "dict", data := .dict #[] }) scope.names } := GO.same rfl rfl
  refine codeAny_compStart_list (loop _ rfl g4) (wk.self 0 _ _ _ ?_ (loop _ rfl g4))
  exact wk.frame _ _ _ hSw fun b _ o' q => k3 _ _ (k2 _ _ q)
end
end
section
theorem Ext.updD {W : List Addr} {G₀ h₀ G h h' : Heap} {a : Addr} (e : Ext W G₀ h₀ G h) (sb : ∀ b o, b ≠ a → h.get? b = some o → h'.get? b = some o) (ha : Dead h₀ a) (hoff : G.get? a = none) : Ext W G₀ h₀ G h' :=
  ⟨fun b o n q => sb b o (fun z => by subst z; rw [show h₀.get? b = none from ha] at q; cases q) (e.keep b o n q),
   fun b o q => by
    obtain ⟨o', q'⟩ := e.live b o q
    exact ⟨o', sb b o' (fun z => by subst z; rw [show h₀.get? b = none from ha] at q; cases q) q'⟩, e.sub, e.fresh, fun b o q => sb b o (fun z => by rw [z, hoff] at q; cases q) (e.into b o q)⟩
section
variable {W : List Addr} {prog : Program} {w : World} {A : Around} {G h G₀ h₀ : Heap} {env : Env} {l lc : List (Str × Value)}
theorem T_ListComp {P : Value → Heap → Heap → Prop} {elt iter : Expr} {x : Str} {px pos : Pos} {scope : Scope} (lc' : List (Str × Value)) (hA : A.handled = none) (F : Fm w env G h l lc) (ok : compOk scope env = true)
    (hx : (x, NameKind.local) ∈ scope.names ∨ (x, NameKind.cell) ∈ scope.names) (hlc : ∀ p ∈ lc', p ∈ lc ∧ (p.1, NameKind.free) ∈ scope.names)
    (y : T [] prog w A (eval iter env) G h (fun xv G1 h1 => ∃ n Pv St Fi, Turns W prog w A scope env lc' x elt G1 h1 xv n Pv St Fi ∧
      ∀ a Ga ha, Ext W G1 h1 Ga ha → Ext W G h Ga ha → LP Ga (.ref a) n (fun i u => Fi i u Ga) → St n ha → P (.ref a) Ga ha))
    (hOW : OffW W env := by exact OffW.nil) (hs : ∀ x, foldedSetIterable iter env x = pure x := by intro _; rfl) :
    T W prog w A (eval (.ListComp elt [⟨.Name x px, iter, [], 0⟩] scope pos) env) G h P := fun s hh hi => by
  rw [eval_ListComp]
  refine comp_core (use := none) hA F hOW ok hx hlc hs hh hi (y.mono fun xv G1 h1 e1 ⟨n, Pv, St, Fi, t, fin⟩ => ⟨n, Pv, St, Fi, t, fun a Ga s' C x1 x2 g hl hst hd ho hn _ => ?_⟩)
  obtain ⟨m, hn⟩ := hn
  refine ⟨m, hn, fun h' sb => ?_⟩
  have u1 := x1.updD sb.extBut hd ho
  have u2 := x2.updD sb.extBut (e1.dead hd) ho
  refine ⟨Ga, u2, ⟨g.os, g.gens⟩, fin a Ga h' u1 u2 hl (t.stable _ _ _ hst fun b m o q => sb.extBut b o (fun z => ?_) q)⟩
  obtain ⟨o', q'⟩ := t.live b m
  rw [z, show h1.get? C = none from hd] at q'; cases q'
/-- a name is given a comprehension's list -/
theorem B_AssignComp {P : Flow → Heap → Heap → Prop} {elt iter : Expr} {x y : Str} {px py pos spos : Pos} {scope : Scope} (lc' : List (Str × Value)) (V : List Addr) (hA : A.handled = none) (F : Fm w env G h l lc) (ok : compOk scope env = true)
    (hx : (x, NameKind.local) ∈ scope.names ∨ (x, NameKind.cell) ∈ scope.names) (hlc : ∀ p ∈ lc', p ∈ lc ∧ (p.1, NameKind.free) ∈ scope.names)
    (b : env.locals ∈ W ∨ Dead h₀ env.locals) (hy : env.kindOf y = some .local) (hny : noKey l y = true)
    (hsw : swapsWith (.ListComp elt [⟨.Name x px, iter, [], 0⟩] scope pos) (some (.Name y py)) spos.line env = pure true)
    (z : T [] prog w A (eval iter env) G h (fun xv G1 h1 => ∃ n Pv St Fi, Turns V prog w A scope env lc' x elt G1 h1 xv n Pv St Fi ∧
      ∀ a Ga ha, Ext (env.locals :: V) G h Ga ha → LP Ga (.ref a) n (fun i u => Fi i u Ga) → Fm w env Ga ha ((y, .ref a) :: l) lc → St n ha → P .next Ga ha))
    (hOW : OffW V env := by exact OffW.nil) (hV : ∀ a ∈ V, a ∈ W ∨ Dead h₀ a := by intro a m; cases m)
    (hs : ∀ x, foldedSetIterable iter env x = pure x := by intro _; rfl) :
    B W prog w A G₀ h₀ (exec (.Assign [.Name y py] (.ListComp elt [⟨.Name x px, iter, [], 0⟩] scope pos) spos) env) G h P := fun s₀ s h0 hh g e => by
  rw [exec_Assign_Name_used _ _ _ _ hsw]
  refine wpAny_bind (wpAny_standAt (wpAny_bind ?_))
  show wpAny _ A (do let _ ← comprehension (.ListComp elt [⟨.Name x px, iter, [], 0⟩] scope pos) scope env _ (newList []) false (eval iter env) (some (assign (.Name y py) env))) _ _ s
  refine wpAny_bind (wpAny_mono (comp_core (W := V) (use := some (assign (.Name y py) env)) (Q := fun _ s' => ∃ G', Ext W G₀ h₀ G' s'.heap ∧ GO s₀ s' ∧ P .next G' s'.heap) hA F hOW ok hx hlc hs hh e.into
    (z.mono fun xv G1 h1 e1 ⟨n, Pv, St, Fi, t, fin⟩ => ⟨n, Pv, St, Fi, t, fun a Ga s' C x1 x2 gs hl hst hd ho hn _ => ?_⟩)) (fun _ s' q => wpAny_pure (wpAny_pure q)) fun _ _ z => z)
  obtain ⟨mC, hn⟩ := hn
  show wpAny _ A (assign (.Name y py) env (.ref a)) _ _ _
  have Fa := F.ext x2 hOW
  obtain ⟨m, hm, hml⟩ := Fa.ns
  refine wpAny_assign_Name (wpAny_storeName_local hy hm (fun h' hn' hsb => ?_) (by rw [F.kind]; rfl))
  have neC : C ≠ env.locals := fun q => by
    obtain ⟨o, q'⟩ := (let ⟨m, hm, _⟩ := F.ns; ns_live hm)
    obtain ⟨o', q2⟩ := e1.live _ _ q'
    have hd' : Dead h1 env.locals := q ▸ hd
    rw [show h1.get? env.locals = none from hd'] at q2; cases q2
  refine ⟨mC, hn.sameBut hsb neC, fun h'' hsb2 => ?_⟩
  have F' := Fa.setL hm hml (noKey_of hny) hn' hsb
  have inn : In Ga h'' := fun b o q => hsb2.extBut b o (fun z => by rw [z, ho] at q; cases q) (F'.into b o q)
  have cellLive : ∀ nn b, env.cells.lookup nn = some b → b ≠ C := fun nn b hb q => by
    obtain ⟨v, x⟩ := F.cell nn b hb
    obtain ⟨o, x, _⟩ := x
    obtain ⟨o', q2⟩ := e1.live _ _ x
    rw [q, show h1.get? C = none from hd] at q2; cases q2
  have F'' : Fm w env Ga h'' ((y, .ref a) :: l) lc := F'.other (fun b o hb q => hsb2.extBut b o (fun z => by
    rcases hb with rfl | ⟨nn, hb⟩
    · exact neC z.symm
    · exact cellLive nn b hb z) q) inn
  have dC : Dead h C := e1.dead hd
  have dC0 : Dead h₀ C := e.dead dC
  have up : ∀ {W' : List Addr} {Gx hx : Heap}, Ext W' Gx hx Ga s'.heap → (env.locals ∈ W' ∨ Dead hx env.locals) → Dead hx C → Ext W' Gx hx Ga h'' := fun u b d =>
    (u.upd hsb.extBut b (ns_live hn') Fa.offL).updD hsb2.extBut d ho
  refine ⟨Ga, up (e.weak x2 hV) b dC0, ⟨g.os ▸ gs.os, (g.trans gs).gens⟩, fin a Ga h'' (up ?_ (.inl List.mem_cons_self) dC) hl F'' (t.stable _ _ _ hst fun b m o q => ?_)⟩
  · exact (Ext.refl e.into).weak x2 fun a m => .inl (List.mem_cons_of_mem _ m)
  · refine hsb2.extBut b o (fun z => ?_) (hsb.extBut b o (fun z => (hOW b m).1 z) q)
    obtain ⟨o', q'⟩ := t.live b m
    rw [z, show h1.get? C = none from hd] at q'; cases q'
/-- a name is given a comprehension's list, which is not frozen: it will change -/
theorem B_CompMut {P : Flow → Heap → Heap → Prop} {elt iter : Expr} {x y : Str} {px py pos spos : Pos} {scope : Scope} (lc' : List (Str × Value)) (hA : A.handled = none) (F : Fm w env G h l lc) (ok : compOk scope env = true)
    (hx : (x, NameKind.local) ∈ scope.names ∨ (x, NameKind.cell) ∈ scope.names) (hlc : ∀ p ∈ lc', p ∈ lc ∧ (p.1, NameKind.free) ∈ scope.names)
    (b : env.locals ∈ W ∨ Dead h₀ env.locals) (hy : env.kindOf y = some .local) (hny : noKey l y = true)
    (hsw : swapsWith (.ListComp elt [⟨.Name x px, iter, [], 0⟩] scope pos) (some (.Name y py)) spos.line env = pure true)
    (z : T [] prog w A (eval iter env) G h (fun xv G1 h1 => ∃ n Pv Fi, Turns [] prog w A scope env lc' x elt G1 h1 xv n Pv (fun _ _ => True) Fi ∧
      ∀ a Ga ha ys, Dead h a → Ga.get? a = none → LAt ha a ys → ys.length = n → (∀ (j : Nat) (y : Value), ys[j]? = some y → Fi j y Ga) → Ext [env.locals] G h Ga ha → Fm w env Ga ha ((y, .ref a) :: l) lc → P .next Ga ha))
    (hs : ∀ x, foldedSetIterable iter env x = pure x := by intro _; rfl) :
    B W prog w A G₀ h₀ (exec (.Assign [.Name y py] (.ListComp elt [⟨.Name x px, iter, [], 0⟩] scope pos) spos) env) G h P := fun s₀ s h0 hh g e => by
  rw [exec_Assign_Name_used _ _ _ _ hsw]
  refine wpAny_bind (wpAny_standAt (wpAny_bind ?_))
  show wpAny _ A (do let _ ← comprehension (.ListComp elt [⟨.Name x px, iter, [], 0⟩] scope pos) scope env _ (newList []) false (eval iter env) (some (assign (.Name y py) env))) _ _ s
  refine wpAny_bind (wpAny_mono (comp_core (W := []) (use := some (assign (.Name y py) env)) (Q := fun _ s' => ∃ G', Ext W G₀ h₀ G' s'.heap ∧ GO s₀ s' ∧ P .next G' s'.heap) hA F OffW.nil ok hx hlc hs hh e.into
    (z.mono fun xv G1 h1 e1 ⟨n, Pv, Fi, t, fin⟩ => ⟨n, Pv, _, Fi, t, fun a Gf s' C _ _ gs _ hst hd _ hn ⟨Ga, ys, x1, oa, da, hla, hlen, hFi, ho, neaC⟩ => ?_⟩)) (fun _ s' q => wpAny_pure (wpAny_pure q)) fun _ _ z => z)
  have x2 : Ext [] G h Ga s'.heap := e1.trans x1
  obtain ⟨mC, hn⟩ := hn
  show wpAny _ A (assign (.Name y py) env (.ref a)) _ _ _
  have Fa := F.ext x2
  obtain ⟨m, hm, hml⟩ := Fa.ns
  refine wpAny_assign_Name (wpAny_storeName_local hy hm (fun h' hn' hsb => ?_) (by rw [F.kind]; rfl))
  have neC : C ≠ env.locals := fun q => by
    obtain ⟨o, q'⟩ := (let ⟨m, hm, _⟩ := F.ns; ns_live hm)
    obtain ⟨o', q2⟩ := e1.live _ _ q'
    have hd' : Dead h1 env.locals := q ▸ hd
    rw [show h1.get? env.locals = none from hd'] at q2; cases q2
  refine ⟨mC, hn.sameBut hsb neC, fun h'' hsb2 => ?_⟩
  have F' := Fa.setL hm hml (noKey_of hny) hn' hsb
  have inn : In Ga h'' := fun b o q => hsb2.extBut b o (fun z => by rw [z, ho] at q; cases q) (F'.into b o q)
  have cellLive : ∀ nn b, env.cells.lookup nn = some b → b ≠ C := fun nn b hb q => by
    obtain ⟨v, x⟩ := F.cell nn b hb
    obtain ⟨o, x, _⟩ := x
    obtain ⟨o', q2⟩ := e1.live _ _ x
    rw [q, show h1.get? C = none from hd] at q2; cases q2
  have F'' : Fm w env Ga h'' ((y, .ref a) :: l) lc := F'.other (fun b o hb q => hsb2.extBut b o (fun z => by
    rcases hb with rfl | ⟨nn, hb⟩
    · exact neC z.symm
    · exact cellLive nn b hb z) q) inn
  have dC : Dead h C := e1.dead hd
  have dC0 : Dead h₀ C := e.dead dC
  have up : ∀ {W' : List Addr} {Gx hx : Heap}, Ext W' Gx hx Ga s'.heap → (env.locals ∈ W' ∨ Dead hx env.locals) → Dead hx C → Ext W' Gx hx Ga h'' := fun u b d =>
    (u.upd hsb.extBut b (ns_live hn') Fa.offL).updD hsb2.extBut d ho
  have neL : a ≠ env.locals := fun q => by
    obtain ⟨o, q'⟩ := (let ⟨m, hm, _⟩ := F.ns; ns_live hm)
    obtain ⟨o', q2⟩ := e1.live _ _ q'
    have hd' : Dead h1 env.locals := q ▸ da
    rw [show h1.get? env.locals = none from hd'] at q2; cases q2
  have hl2 : LAt h'' a ys := let ⟨k, q⟩ := hla; ⟨k, hsb2.extBut _ _ neaC (hsb.extBut _ _ neL q)⟩
  refine ⟨Ga, up (e.weak x2 fun a m => by cases m) b dC0, ⟨g.os ▸ gs.os, (g.trans gs).gens⟩, fin a Ga h'' ys (e1.dead da) oa hl2 hlen hFi (up ?_ (.inl List.mem_cons_self) dC) F''⟩
  exact (Ext.refl e.into).weak x2 fun a m => by cases m
theorem compOk_of {scope : Scope} {env e : Env} (h : env = e) (q : compOk scope e = true) : compOk scope env = true := h ▸ q
theorem Turns.loc {scope : Scope} {e₁ : Env} {lc' : List (Str × Value)} {x : Str} {elt : Expr} {xv : Value} {n : Nat} {Pv : Nat → Value → Prop} {Fi : Nat → Value → Heap → Prop} (hE : env = e₁) (it : Iter prog w G xv n Pv) (small : n ≤ 1000)
    (mono : ∀ i y Ga Gb, Fi i y Ga → (∀ b o, Ga.get? b = some o → Gb.get? b = some o) → Fi i y Gb) (hx : (x, NameKind.local) ∈ scope.names)
    (turn : ∀ i v cenv L Ga ha, i < n → Pv i v → Ext [] G h Ga ha → cenv = compEnv scope e₁ L → Fm w cenv Ga ha [(x, v)] lc' → T [] prog w A (eval elt cenv) Ga ha (fun u Gb hb => Fi i u Gb)) :
    Turns [] prog w A scope env lc' x elt G h xv n Pv (fun _ _ => True) Fi :=
  ⟨it, small, trivial, (fun _ _ _ _ _ => trivial), (fun a m => by cases m), mono, fun i v L Ga ha hi hv e _ f1 _ _ => (turn i v _ L Ga ha hi hv e (by rw [hE]) (f1 hx)).mono fun u Gb hb _ q => ⟨q, trivial⟩⟩
theorem Turns.cel {scope : Scope} {e₁ : Env} {lc' : List (Str × Value)} {x : Str} {elt : Expr} {xv : Value} {n : Nat} {Pv : Nat → Value → Prop} {Fi : Nat → Value → Heap → Prop} (hE : env = e₁) (it : Iter prog w G xv n Pv) (small : n ≤ 1000)
    (mono : ∀ i y Ga Gb, Fi i y Ga → (∀ b o, Ga.get? b = some o → Gb.get? b = some o) → Fi i y Gb) (hx : (x, NameKind.cell) ∈ scope.names)
    (turn : ∀ i v cenv L Ga ha, i < n → Pv i v → Ext [] G h Ga ha → cenv = compEnv scope e₁ L → Fm w cenv Ga ha [] ((x, v) :: lc') → T [] prog w A (eval elt cenv) Ga ha (fun u Gb hb => Fi i u Gb)) :
    Turns [] prog w A scope env lc' x elt G h xv n Pv (fun _ _ => True) Fi :=
  ⟨it, small, trivial, (fun _ _ _ _ _ => trivial), (fun a m => by cases m), mono, fun i v L Ga ha hi hv e _ _ f2 _ => (turn i v _ L Ga ha hi hv e (by rw [hE]) (f2 hx)).mono fun u Gb hb _ q => ⟨q, trivial⟩⟩
/-- a comprehension that changes nothing, as an expression -/
theorem T_Comp {P : Value → Heap → Heap → Prop} {elt iter : Expr} {x : Str} {px pos : Pos} {scope : Scope} (lc' : List (Str × Value)) (hA : A.handled = none) (F : Fm w env G h l lc) (ok : compOk scope env = true)
    (hx : (x, NameKind.local) ∈ scope.names ∨ (x, NameKind.cell) ∈ scope.names) (hlc : ∀ p ∈ lc', p ∈ lc ∧ (p.1, NameKind.free) ∈ scope.names)
    (y : T [] prog w A (eval iter env) G h (fun xv G1 h1 => ∃ n Pv Fi, Turns [] prog w A scope env lc' x elt G1 h1 xv n Pv (fun _ _ => True) Fi ∧
      ∀ a Ga ha, Ext [] G h Ga ha → LP Ga (.ref a) n (fun i u => Fi i u Ga) → P (.ref a) Ga ha))
    (hs : ∀ x, foldedSetIterable iter env x = pure x := by intro _; rfl) :
    T [] prog w A (eval (.ListComp elt [⟨.Name x px, iter, [], 0⟩] scope pos) env) G h P :=
  T_ListComp lc' hA F ok hx hlc (y.mono fun xv G1 h1 _ ⟨n, Pv, Fi, t, f⟩ => ⟨n, Pv, _, Fi, t, fun a Ga ha _ e hl _ => f a Ga ha e hl⟩) OffW.nil hs
/-- the same, given to a name -/
theorem B_CompS {P : Flow → Heap → Heap → Prop} {elt iter : Expr} {x y : Str} {px py pos spos : Pos} {scope : Scope} (lc' : List (Str × Value)) (hA : A.handled = none) (F : Fm w env G h l lc) (ok : compOk scope env = true)
    (hx : (x, NameKind.local) ∈ scope.names ∨ (x, NameKind.cell) ∈ scope.names) (hlc : ∀ p ∈ lc', p ∈ lc ∧ (p.1, NameKind.free) ∈ scope.names)
    (b : env.locals ∈ W ∨ Dead h₀ env.locals) (hy : env.kindOf y = some .local) (hny : noKey l y = true)
    (hsw : swapsWith (.ListComp elt [⟨.Name x px, iter, [], 0⟩] scope pos) (some (.Name y py)) spos.line env = pure true)
    (z : T [] prog w A (eval iter env) G h (fun xv G1 h1 => ∃ n Pv Fi, Turns [] prog w A scope env lc' x elt G1 h1 xv n Pv (fun _ _ => True) Fi ∧
      ∀ a Ga ha, Ext [env.locals] G h Ga ha → LP Ga (.ref a) n (fun i u => Fi i u Ga) → Fm w env Ga ha ((y, .ref a) :: l) lc → P .next Ga ha))
    (hs : ∀ x, foldedSetIterable iter env x = pure x := by intro _; rfl) :
    B W prog w A G₀ h₀ (exec (.Assign [.Name y py] (.ListComp elt [⟨.Name x px, iter, [], 0⟩] scope pos) spos) env) G h P :=
  B_AssignComp lc' [] hA F ok hx hlc b hy hny hsw (z.mono fun xv G1 h1 _ ⟨n, Pv, Fi, t, f⟩ => ⟨n, Pv, _, Fi, t, fun a Ga ha e hl F _ => f a Ga ha e hl F⟩) OffW.nil (by intro a m; cases m) hs
end
end
section
theorem NsK.live {H : Heap} {a : Addr} {m : Str → Option Value} {k : Nat} (x : NsK H a m k) : ∃ o, H.get? a = some o := let ⟨o, _, _, e, _⟩ := x; ⟨o, e⟩
section
variable {W : List Addr} {prog : Program} {w : World} {A : Around} {G h G₀ h₀ : Heap} {env : Env} {l lc : List (Str × Value)} {P : Value → Heap → Heap → Prop} {f : Value} {first : List Value} {pos : Pos}
theorem T_cw0 (z : Kept prog w f h ∧ T W prog w A (call f (first ++ []) []) G h P) : T W prog w A (callWith pos f first (backTo pos (starEach [] env)) (backToKw pos (keywordEach [] env))) G h P :=
  T_callWith (T_args0 z)
theorem T_cw1 {a : Expr} (z : T W prog w A (eval a env) G h (fun v G2 h2 => Kept prog w f h2 ∧ T W prog w A (call f (first ++ [v]) []) G2 h2 P)) (hs : starEach [a] env = [(false, eval a env)]) :
    T W prog w A (callWith pos f first (backTo pos (starEach [a] env)) (backToKw pos (keywordEach [] env))) G h P := by
  rw [hs]
  exact T_callWith (T_argsP (T_splicedCons (z.mono fun v G2 h2 _ q => T_splicedNil q)))
theorem T_cw2 {a b : Expr} (z : T W prog w A (eval a env) G h (fun v G2 h2 => T W prog w A (eval b env) G2 h2 (fun u G3 h3 => Kept prog w f h3 ∧ T W prog w A (call f (first ++ [v, u]) []) G3 h3 P))) (hs : starEach [a, b] env = [(false, eval a env), (false, eval b env)]) :
    T W prog w A (callWith pos f first (backTo pos (starEach [a, b] env)) (backToKw pos (keywordEach [] env))) G h P := by
  rw [hs]
  exact T_callWith (T_argsP (T_splicedCons (z.mono fun v G2 h2 _ q => T_splicedCons (q.mono fun u G3 h3 _ r => T_splicedNil r))))
theorem T_cwK1 {a b : Expr} {k : Str} {kp : Pos} (z : T W prog w A (eval a env) G h (fun v G2 h2 => T W prog w A (eval b env) G2 h2 (fun u G3 h3 => Kept prog w f h3 ∧ T W prog w A (call f (first ++ [v]) [(k, u)]) G3 h3 P))) (hs : starEach [a] env = [(false, eval a env)]) :
    T W prog w A (callWith pos f first (backTo pos (starEach [a] env)) (backToKw pos (keywordEach [⟨some k, b, kp⟩] env))) G h P := by
  refine T_callWith ?_ (by rw [hs]; rfl)
  intro s hh hi
  refine evalArgs_kw2 (by rfl) ?_ (by rw [hs]; rfl)
  rw [hs]
  refine Calls.spliced_cons (z.run hh hi fun v s1 G1 e1 g1 q => Calls.spliced_nil ?_)
  refine kwAll_cons (q.run rfl e1.into fun u s2 G2 e2 g2 r => kwAll_nil ?_)
  exact ⟨G2, e1.trans e2, g1.trans g2, r⟩
theorem T_cwK2 {a c b : Expr} {k : Str} {kp : Pos} (z : T W prog w A (eval a env) G h (fun v G2 h2 => T W prog w A (eval c env) G2 h2 (fun t G4 h4 => T W prog w A (eval b env) G4 h4 (fun u G3 h3 => Kept prog w f h3 ∧ T W prog w A (call f (first ++ [v, t]) [(k, u)]) G3 h3 P)))) (hs : starEach [a, c] env = [(false, eval a env), (false, eval c env)]) (he : starEach [a, c] env = (false, eval a env) :: starEach [c] env) :
    T W prog w A (callWith pos f first (backTo pos (starEach [a, c] env)) (backToKw pos (keywordEach [⟨some k, b, kp⟩] env))) G h P := by
  refine T_callWith ?_ (by rw [hs]; rfl)
  intro s hh hi
  refine evalArgs_kw2 (rest := [c]) (by rfl) ?_ he
  rw [hs]
  refine Calls.spliced_cons (z.run hh hi fun v s1 G1 e1 g1 q => Calls.spliced_cons (q.run rfl e1.into fun t s4 G4 e4 g4 q4 => Calls.spliced_nil ?_))
  refine kwAll_cons (q4.run rfl e4.into fun u s2 G2 e2 g2 r => kwAll_nil ?_)
  exact ⟨G2, e1.trans (e4.trans e2), g1.trans (g4.trans g2), r⟩
theorem Fm.upd {w : World} {hb h' : Heap} {a : Addr} (F : Fm w env G h l lc) (bs : Bs [] hb env) (live : ∃ o, hb.get? a = some o) (sb : Heap.SameBut a h h') (hin : In G h') : Fm w env G h' l lc :=
  F.other (fun b o hb' q => sb.extBut b o (fun z => by
    subst z
    obtain ⟨o', q'⟩ := live
    have d : Dead hb b := by
      rcases hb' with rfl | ⟨n, hn⟩
      · exact bs.l.elim (fun m => by cases m) id
      · exact (bs.c n b hn).elim (fun m => by cases m) id
    rw [show hb.get? b = none from d] at q'; cases q') q) hin
end
end
section
/-- two lists zipped anew -/
structure ZipAt (H : Heap) (z TI TO i1 i2 a1 a2 : Addr) (i : Nat) (f0 : Value) : Prop where
  z : IsZip H z TI TO f0
  ti : IsPair H TI (.ref i1) (.ref i2)
  to : ∃ a b, IsPair H TO a b
  l1 : H.IsListIter i1 a1 i
  l2 : H.IsListIter i2 a2 i
def zipIn (z TI TO i1 i2 b : Addr) : Prop := b = z ∨ b = TI ∨ b = TO ∨ b = i1 ∨ b = i2
theorem ZipAt.keep {H H' : Heap} {z TI TO i1 i2 a1 a2 : Addr} {i : Nat} {f0 : Value} (x : ZipAt H z TI TO i1 i2 a1 a2 i f0) (k : ∀ b o, zipIn z TI TO i1 i2 b → H.get? b = some o → H'.get? b = some o) : ZipAt H' z TI TO i1 i2 a1 a2 i f0 :=
  ⟨k _ _ (.inl rfl) x.z, k _ _ (.inr (.inl rfl)) x.ti, let ⟨a, b, e⟩ := x.to; ⟨a, b, k _ _ (.inr (.inr (.inl rfl))) e⟩, x.l1.at fun o e => k _ o (.inr (.inr (.inr (.inl rfl)))) e, x.l2.at fun o e => k _ o (.inr (.inr (.inr (.inr rfl)))) e⟩
theorem ZipAt.live {H : Heap} {z TI TO i1 i2 a1 a2 : Addr} {i : Nat} {f0 : Value} (x : ZipAt H z TI TO i1 i2 a1 a2 i f0) {b : Addr} (h : zipIn z TI TO i1 i2 b) : ∃ o, H.get? b = some o := by
  rcases h with rfl | rfl | rfl | rfl | rfl
  · exact ⟨_, x.z⟩
  · exact ⟨_, x.ti⟩
  · obtain ⟨a, b, e⟩ := x.to; exact ⟨_, e⟩
  · obtain ⟨o, e, _⟩ := x.l1; exact ⟨o, e⟩
  · obtain ⟨o, e, _⟩ := x.l2; exact ⟨o, e⟩
section
variable {W : List Addr} {prog : Program} {w : World} {A : Around} {G h G₀ h₀ : Heap} {env : Env} {l lc : List (Str × Value)}
theorem T_zip {a1 a2 : Addr} {vs us : List Value} {P : Value → Heap → Heap → Prop} (h1 : LAt G a1 vs) (h2 : LAt G a2 us)
    (p : ∀ z TI TO i1 i2 h', Ext W G h G h' → ZipAt h' z TI TO i1 i2 a1 a2 0 .none → ZipApart z TI TO i1 i2 a1 a2 → (∀ b, zipIn z TI TO i1 i2 b → Dead h b) → P (.ref z) G h') : T W prog w A (call (.type "zip") [.ref a1, .ref a2] []) G h P := fun s hs hi => by
  subst hs
  obtain ⟨n1, q1⟩ := h1
  obtain ⟨n2, q2⟩ := h2
  have l1 := Heap.lt_size (hi _ _ q1)
  have l2 := Heap.lt_size (hi _ _ q2)
  refine call_zip_2 (xs := vs.toArray) (ys := us.toArray) ⟨_, hi _ _ q1, rfl, n1, rfl⟩ ⟨_, hi _ _ q2, rfl, n2, rfl⟩ fun h' hz hTI hTO i1 i2 hsz hk => ?_
  have e : Ext W G s.heap G h' := ⟨fun b o _ q => hk b o q, fun b o q => ⟨o, hk b o q⟩, fun _ _ q => q, fun _ o q => .inl ⟨o, q⟩, fun b o q => hk b o (hi b o q)⟩
  refine ⟨G, e, GO.same rfl rfl, p _ _ _ _ _ h' e ⟨hz, hTI, ⟨_, _, hTO⟩, i1, i2⟩ ?_ ?_⟩
  · revert l1 l2
    generalize s.heap.objs.size = N
    intro l1 l2
    have t : ∀ a b : Nat, a ≠ b → @Ne Addr a b := fun a b h => h
    exact ⟨t _ _ (by omega), t _ _ (by omega), t _ _ (by omega), t _ _ (by omega), t _ _ (by omega), t _ _ (by omega), t _ _ (by omega), t _ _ (by omega), t _ _ (by omega), t _ _ (by omega), t _ _ (by revert l1; exact fun l => Nat.ne_of_lt (Nat.lt_of_lt_of_le l (by omega))),
      t _ _ (Nat.ne_of_lt (Nat.lt_of_lt_of_le l1 (by omega))), t _ _ (Nat.ne_of_lt (Nat.lt_of_lt_of_le l1 (by omega))), t _ _ (Nat.ne_of_lt (Nat.lt_of_lt_of_le l1 (by omega))), t _ _ (Nat.ne_of_lt (Nat.lt_of_lt_of_le l2 (by omega))), t _ _ (Nat.ne_of_lt (Nat.lt_of_lt_of_le l2 (by omega))), t _ _ (Nat.ne_of_lt (Nat.lt_of_lt_of_le l2 (by omega))), t _ _ (Nat.ne_of_lt (Nat.lt_of_lt_of_le l2 (by omega)))⟩
  · rintro b (rfl | rfl | rfl | rfl | rfl)
    · exact dead_of (Nat.le_add_right _ _)
    · exact dead_of (Nat.le_add_right _ _)
    · exact dead_of (Nat.le_add_right _ _)
    · exact dead_of (Nat.le_refl _)
    · exact dead_of (Nat.le_add_right _ _)

theorem comp_zip {elt iter : Expr} {x y : Str} {px py tp pos ipos : Pos} {kk : Nat} {scope : Scope} {lc' : List (Str × Value)} {use : Option (Value → Sem Unit)} {Q : Value → Shared → Prop} (hA : A.handled = none) (F : Fm w env G h l lc) (ok : compOk scope env = true)
    (hx : (x, NameKind.local) ∈ scope.names) (hy : (y, NameKind.local) ∈ scope.names) (hxy : x ≠ y) (hlc : ∀ p ∈ lc', p ∈ lc ∧ (p.1, NameKind.free) ∈ scope.names) (hs : ∀ x, foldedSetIterable iter env x = pure x)
    {s : Shared} (hh : s.heap = h) (hi : In G h)
    (yv : T [] prog w A (eval iter env) G h (fun xv G1 h1 => ∃ (z TI TO i1 i2 a1 a2 : Addr) (vs us : List Value) (n : Nat) (Fi : Nat → Value → Heap → Prop), xv = .ref z ∧ ZipAt h1 z TI TO i1 i2 a1 a2 0 .none ∧ ZipApart z TI TO i1 i2 a1 a2 ∧ (∀ b, zipIn z TI TO i1 i2 b → Dead h b ∧ G1.get? b = none) ∧ LAt G1 a1 vs ∧ LAt G1 a2 us ∧ vs.length = n ∧ us.length = n ∧ n ≤ 1000 ∧
      (∀ i y Ga Gb, Fi i y Ga → (∀ b o, Ga.get? b = some o → Gb.get? b = some o) → Fi i y Gb) ∧
      (∀ i u v L Ga ha, i < n → vs[i]? = some u → us[i]? = some v → (∀ b o, G1.get? b = some o → Ga.get? b = some o) → Fm w (compEnv scope env L) Ga ha [(y, v), (x, u)] lc' → T [] prog w A (eval elt (compEnv scope env L)) Ga ha (fun r Gb hb => Fi i r Gb)) ∧
      ∀ a Ga s' C, Ext [] G h Ga s'.heap → GO s s' → LP Ga (.ref a) n (fun i u => Fi i u Ga) → Dead h C → Dead h1 C → Ga.get? C = none → (∃ m, s'.heap.Ns C m) → compPost (model prog w) A (fun _ _ => False) use Q (.ref a) C (.ok .next) s')) :
    wpAny (model prog w) A (comprehension (.ListComp elt [⟨.Tuple [.Name x px, .Name y py] kk tp, iter, [], 0⟩] scope pos) scope env ipos (newList []) false (eval iter env) use) Q (fun _ _ => False) s := by
  have okf : freeOk env.cells scope.names = true := (Bool.and_eq_true_iff.mp (Bool.and_eq_true_iff.mp ok).1).2
  have on : onceAll scope.names = true := (Bool.and_eq_true_iff.mp (Bool.and_eq_true_iff.mp ok).1).1
  have okk : scope.kind = .function := compFrame.beq_kind (Bool.and_eq_true_iff.mp ok).2
  refine wpAny_comprehension_free (g := ⟨.Tuple [.Name x px, .Name y py] kk tp, iter, [], 0⟩) (gs := []) rfl hs (closureFor_eq okf) okk (fun p hp e => once_lookup on (by rw [← e]; exact hp)) ?_
  refine yv.run hh hi fun xv s1 G1 e1 g1 zz => ?_
  obtain ⟨z, TI, TO, i1, i2, a1, a2, vs, us, n, Fi, rfl, za, ap, zd, hv, hu, hvn, hun, hn1, mono, turn, fin⟩ := zz
  refine wpAny_pyIter_zip za.z ?_
  refine wpAny_newObj_type (newCompEnv ?_)
  dsimp only
  generalize hD : s1.heap.objs.size = D
  generalize hH2 : s1.heap.push { cls := .type "list", dict := none, data := .seq ([] : List Value).toArray } = H2
  have k2 : ∀ b o', s1.heap.get? b = some o' → H2.get? b = some o' := fun b o' e => hH2 ▸ Heap.get?_push_of_some _ e
  have d2 : LAt H2 D [] := ⟨0, by rw [← hH2, ← hD]; exact Heap.get?_push_size _ rfl⟩
  have deadD1 : Dead s1.heap D := dead_of (Nat.le_of_eq hD)
  have deadD : Dead h D := e1.dead deadD1
  have F2 : Fm w env G1 H2 l lc := (F.ext (W := []) e1).other (fun b o' _ e => k2 _ _ e) (fun b o' e => k2 _ _ (e1.into _ _ e))
  obtain ⟨F3, own, cls, hasC⟩ := compFrame (lc' := lc') F2 rfl ok hlc
  generalize hC : H2.objs.size = C at F3 own cls hasC
  generalize hH3 : pushCells (H2.push { cls := .type "dict", data := .dict #[] }) scope.names = H3 at F3
  have k3 : ∀ b o', H2.get? b = some o' → H3.get? b = some o' := fun b o' e => hH3 ▸ pushCells_keeps _ _ b o' (Heap.get?_push_of_some _ e)
  have deadC2 : Dead H2 C := dead_of (Nat.le_of_eq hC)
  have dead1 : ∀ b, Dead H2 b → Dead s1.heap b := fun b d => by
    cases q : s1.heap.get? b with
    | none => exact q
    | some o' => have := k2 _ _ q; rw [show H2.get? b = none from d] at this; cases this
  have deadC1 : Dead s1.heap C := dead1 C deadC2
  have deadC : Dead h C := e1.dead deadC1
  have liveD : ∃ o', H2.get? D = some o' := let ⟨k, q⟩ := d2; ⟨_, q⟩
  have neOf : ∀ {H : Heap} {b c : Addr}, (∃ o', H.get? b = some o') → Dead H c → b ≠ c := fun ⟨o', q⟩ d e => by subst e; rw [show Heap.get? _ _ = none from d] at q; cases q
  have zl : ∀ {b}, zipIn z TI TO i1 i2 b → ∃ o', s1.heap.get? b = some o' := fun hb => za.live hb
  have zl2 : ∀ {b}, zipIn z TI TO i1 i2 b → ∃ o', H2.get? b = some o' := fun hb => let ⟨o', q⟩ := zl hb; ⟨o', k2 _ _ q⟩
  have zneD : ∀ {b}, zipIn z TI TO i1 i2 b → b ≠ D := fun hb => neOf (zl hb) deadD1
  have cellNe : ∀ b, (b = C ∨ ∃ n, (compEnv scope env C).cells.lookup n = some b) → ¬ zipIn z TI TO i1 i2 b ∧ b ≠ D := fun b hb => by
    rcases hb with rfl | ⟨nn, hn⟩
    · exact ⟨fun hz => neOf (zl2 hz) deadC2 rfl, (neOf liveD deadC2).symm⟩
    · rcases cls nn b hn with d | q
      · exact ⟨fun hz => neOf (zl2 hz) d rfl, (neOf liveD d).symm⟩
      · obtain ⟨v, x⟩ := F.cell nn b q
        exact ⟨fun hz => neOf (cell_live x) (zd b hz).1 rfl, neOf (cell_live x) deadD⟩
  have offG : ∀ a, Dead s1.heap a → G1.get? a = none := fun a d => by
    cases q : G1.get? a with
    | none => rfl
    | some o' => have := e1.into _ _ q; rw [show s1.heap.get? a = none from d] at this; cases this
  have x3 : Ext [] G h G1 H3 := ⟨fun b o' n e => k3 _ _ (k2 _ _ (e1.keep _ _ n e)), fun b o' e => let ⟨o'', q⟩ := e1.live b o' e; ⟨o'', k3 _ _ (k2 _ _ q)⟩, e1.sub, e1.fresh, F3.into⟩
  have kx : (compEnv scope env C).kindOf x = some .local := lookup_relabel (by decide) (once_lookup on hx)
  have ky : (compEnv scope env C).kindOf y = some .local := lookup_relabel (by decide) (once_lookup on hy)
  have loop : ∀ s4 : Shared, s4.heap = H3 → GO s1 s4 → codeAny (model prog w) A (.compLoop (.ListComp elt [⟨.Tuple [.Name x px, .Name y py] kk tp, iter, [], 0⟩] scope pos) 0 (.ref z) (.ref D) (compEnv scope env C)) (compPost (model prog w) A (fun _ _ => False) use Q (.ref D) C) s4 := by
    intro s4 hs4 g4
    refine LCp.codeAny_compLoop_pair (fun k s' => ∃ i Ga ys, k = n - i ∧ i ≤ n ∧ ZipAt s'.heap z TI TO i1 i2 a1 a2 i .none ∧ Ext [] G h Ga s'.heap ∧ GO s1 s' ∧ Fm w (compEnv scope env C) Ga s'.heap [] lc' ∧ LAt s'.heap D ys ∧ ys.length = i ∧
      (∀ (j : Nat) (y : Value), ys[j]? = some y → Fi j y Ga) ∧ (∀ b o, G1.get? b = some o → Ga.get? b = some o) ∧ (∀ b, zipIn z TI TO i1 i2 b → Ga.get? b = none) ∧ Ga.get? D = none) ?_ n ?_
    · rintro k s' ⟨i, Ga, ys, rfl, hin, hz, e', g', F', hl, hlen, hF, sub, oz, oD⟩
      have hv' : s'.heap.IsList a1 vs.toArray := (hv.keeps fun b o q => e'.into _ _ (sub _ _ q)).isList
      have hu' : s'.heap.IsList a2 us.toArray := (hu.keeps fun b o q => e'.into _ _ (sub _ _ q)).isList
      obtain ⟨ta, tb, hto⟩ := hz.to
      have zk : ∀ {h' : Heap}, (∀ c o, c ≠ z → c ≠ TO → c ≠ i1 → c ≠ i2 → s'.heap.get? c = some o → h'.get? c = some o) → ∀ b o, ¬ zipIn z TI TO i1 i2 b → s'.heap.get? b = some o → h'.get? b = some o := fun hk b o hb q =>
        hk b o (fun e => hb (.inl e)) (fun e => hb (.inr (.inr (.inl e)))) (fun e => hb (.inr (.inr (.inr (.inl e))))) (fun e => hb (.inr (.inr (.inr (.inr e))))) q
      have notD : ¬ zipIn z TI TO i1 i2 D := fun hz => zneD hz rfl
      have extOf : ∀ {h' : Heap}, (∀ b o, ¬ zipIn z TI TO i1 i2 b → s'.heap.get? b = some o → h'.get? b = some o) → Ext [] G h Ga h' := fun hk =>
        ⟨fun b o n q => hk b o (fun hz => by rw [show h.get? b = none from (zd b hz).1] at q; cases q) (e'.keep b o n q), fun b o q => by
            obtain ⟨o', q'⟩ := e'.live b o q
            exact ⟨o', hk b o' (fun hz => by rw [show h.get? b = none from (zd b hz).1] at q; cases q) q'⟩, e'.sub, e'.fresh, fun b o q => hk b o (fun hz => by rw [oz b hz] at q; cases q) (e'.into b o q)⟩
      rcases Nat.lt_or_ge i n with lt | ge
      · have lv : i < vs.length := by omega
        have lu : i < us.length := by omega
        refine wpAny_pyNext_zip_item ap hz.z hz.ti hto hz.l1 hz.l2 hv' hu' (x := vs[i]) (y := us[i]) (by simp [lv]) (by simp [lu]) fun h1 z1 to1 l1 l2 pr sz hk => ?_
        have hk1 := zk hk
        have hz1 : ZipAt h1 z TI TO i1 i2 a1 a2 (i + 1) (rawInt s'.heap.objs.size) := ⟨z1, hk TI _ ap.TIz ap.TITO ap.TIi1 ap.TIi2 hz.ti, ⟨_, _, to1⟩, l1, l2⟩
        refine wpAny_letOwnedTupleGo_zip z1 fun h2 z2 sb2 => ?_
        have hz2 : ZipAt h2 z TI TO i1 i2 a1 a2 (i + 1) .none := ⟨z2, sb2.extBut _ _ ap.TIz hz1.ti, ⟨_, _, sb2.extBut _ _ ap.TOz to1⟩, l1.extBut sb2.extBut ap.i1z, l2.extBut sb2.extBut ap.i2z⟩
        have hk2 : ∀ b o, ¬ zipIn z TI TO i1 i2 b → s'.heap.get? b = some o → h2.get? b = some o := fun b o hb q => sb2.extBut b o (fun e => hb (.inl e)) (hk1 b o hb q)
        have Tne : s'.heap.objs.size ≠ z := fun e => by
          have := Heap.lt_size hz.z
          rw [← e] at this; exact Nat.lt_irrefl _ this
        have pr2 : h2.get? s'.heap.objs.size = some { cls := .type "tuple", data := .seq #[vs[i], us[i]] } := sb2.extBut _ _ Tne pr
        refine assign_Tuple_tuple (items := #[vs[i], us[i]]) hA ⟨_, pr2, rfl, _, rfl⟩ rfl rfl fun h3 he3 => ?_
        have lv2 : ∀ b, (∃ o, h2.get? b = some o) → b ≠ h2.objs.size := fun b ⟨o, q⟩ e => by subst e; exact Nat.lt_irrefl _ (Heap.lt_size q)
        have hz3 : ZipAt h3 z TI TO i1 i2 a1 a2 (i + 1) .none := hz2.keep fun b o hb q => he3 b o (lv2 b ⟨o, q⟩) q
        have hk3 : ∀ b o, ¬ zipIn z TI TO i1 i2 b → s'.heap.get? b = some o → h3.get? b = some o := fun b o hb q => he3 b o (lv2 b ⟨o, hk2 b o hb q⟩) (hk2 b o hb q)
        have e3 : Ext [] G h Ga h3 := extOf hk3
        have F3' : Fm w (compEnv scope env C) Ga h3 [] lc' := F'.other (fun b o hb q => hk3 b o (cellNe b hb).1 q) e3.into
        have hl3 : LAt h3 D ys := let ⟨k, q⟩ := hl; ⟨k, hk3 _ _ notD q⟩
        obtain ⟨m3, hm3, hml3⟩ := F3'.ns
        refine assignInOrder_cons (PyProof.Rows.assign_Name (wpAny_storeName_local kx hm3 (fun h4 hn4 sb4 => ?_) (by rw [F3'.kind]; rfl)))
        have F4 := F3'.setL hm3 hml3 (fun p hp => by cases hp) hn4 sb4
        obtain ⟨m4, hm4, hml4⟩ := F4.ns
        refine assignInOrder_cons (PyProof.Rows.assign_Name (wpAny_storeName_local ky hm4 (fun h5 hn5 sb5 => ?_) (by rw [F3'.kind]; rfl)))
        have F5 := F4.setL hm4 hml4 (fun p hp => by simp at hp; subst hp; exact hxy) hn5 sb5
        refine assignInOrder_nil ?_
        have kC : ∀ b o, b ≠ C → h3.get? b = some o → h5.get? b = some o := fun b o hb q => sb5.extBut b o hb (sb4.extBut b o hb q)
        have e5 : Ext [] G h Ga h5 := e3.updD kC deadC F3'.offL
        have hl5 : LAt h5 D ys := let ⟨k, q⟩ := hl3; ⟨k, kC _ _ (neOf liveD deadC2) q⟩
        have hz5 : ZipAt h5 z TI TO i1 i2 a1 a2 (i + 1) .none := hz3.keep fun b o hb q => kC b o (neOf (zl2 hb) deadC2) q
        have tt := turn i vs[i] us[i] C Ga h5 lt (List.getElem?_eq_getElem lv) (List.getElem?_eq_getElem lu) sub F5
        refine wpAny_mono (tt _ rfl e5.into) ?_ fun _ _ z => z.elim
        rintro u s6 ⟨Gb, e6, g6, hu6⟩
        have F6 := (F5.ext e6).weak (l' := []) (lc' := lc') (fun p hp => by cases hp) fun p hp => hp
        have hl6 : LAt s6.heap D ys := let ⟨k, q⟩ := hl5; ⟨k, e6.keep _ _ (by simp) q⟩
        have hz6 : ZipAt s6.heap z TI TO i1 i2 a1 a2 (i + 1) .none := hz5.keep fun b o hb q => e6.keep b o (by simp) q
        have e16 : Ext [] G h Gb s6.heap := e5.trans e6
        have oD6 : Gb.get? D = none := off_ext e6 oD (let ⟨k, q⟩ := hl5; ⟨_, q⟩)
        refine wpAny_list_append_plain (items := ys.toArray) hl6 (fun h7 hl7 sb7 => ?_) (by rw [List.size_toArray, sizeLine_eq]; omega)
        have e7 : Ext [] G h Gb h7 := e16.updD sb7.extBut deadD oD6
        refine ⟨n - (i + 1), by omega, i + 1, Gb, ys ++ [u], rfl, lt, hz6.keep fun b o hb q => sb7.extBut b o (zneD hb) q, e7, ⟨g6.os.trans g'.os, ?_⟩, F6.other (fun b o' hb q => sb7.extBut b o' (cellNe b hb).2 q) e7.into, ?_, by simp [hlen], fun j y q => ?_, fun b o q => e6.sub _ _ (sub _ _ q), fun b hb => off_ext e6 (oz b hb) (hz5.live hb), oD6⟩
        · exact ((⟨g'.os, g'.gens⟩ : GO s1 { s' with heap := h5, toks := s'.toks + 1 + 1 }).trans g6).gens
        · obtain ⟨k, q⟩ := hl7
          exact ⟨k, by rw [q]; simp⟩
        · rw [List.getElem?_append] at q
          split at q
          · exact mono j y _ _ (hF j y q) e6.sub
          · have : j = ys.length := by
              rename_i hj
              have := (List.getElem?_eq_some_iff.mp q).1
              simp at this; omega
            subst this
            simp at q; subst q
            rw [hlen]; exact hu6
      · obtain rfl : i = n := by omega
        refine wpAny_pyNext_zip_end hA ap hz.z hz.ti hto hz.l1 hz.l2 hv' hu' (.inl (by simp; omega)) fun h' hk => ?_
        have hk' := zk hk
        have e2 := extOf hk'
        obtain ⟨kq, ql⟩ := hl
        have ql' := hk' _ _ notD ql
        have e3 := e2.freeze ql' deadD oD rfl
        have sub3 := sub_addAt (G := Ga) (a := D) (o := { cls := .type "list", data := .seq ys.toArray kq }) rfl oD
        have hCn : D ≠ C := neOf liveD deadC2
        refine fin D _ { s' with heap := h' } C e3 (g1.trans ⟨g'.os, g'.gens⟩) ⟨D, ys, rfl, ⟨kq, addAt_self rfl⟩, hlen, fun j y q => mono j y _ _ (hF j y q) sub3⟩ deadC deadC1 ?_ ?_
        · rw [addAt_get rfl, if_neg hCn.symm]; exact F'.offL
        · obtain ⟨m, a, _⟩ := F'.ns
          exact ⟨m, a.at' fun o' q => hk' _ o' (cellNe C (.inl rfl)).1 q⟩
    · refine ⟨0, G1, [], rfl, Nat.zero_le _, ?_, hs4 ▸ x3, g4, hs4 ▸ F3, ?_, rfl, (fun j y q => by simp at q), fun _ _ q => q, fun b hb => (zd b hb).2, offG D deadD1⟩
      · rw [hs4]; exact za.keep fun b o _ q => k3 _ _ (k2 _ _ q)
      · rw [hs4]; obtain ⟨k, q⟩ := d2; exact ⟨k, k3 _ _ q⟩
  subst hC hD
  subst hH2
  subst hH3
  have g4 : GO s1 { s1 with heap := pushCells ((s1.heap.push { cls := .type "list", dict := none, data := .seq ([] : List Value).toArray }).push { cls := .type "dict", data := .dict #[] }) scope.names } := GO.same rfl rfl
  refine codeAny_compStart_list (loop _ rfl g4) (wpAny_pyIter_zip (k3 _ _ (k2 _ _ za.z)) (loop _ rfl g4))

theorem B_CompZip {P : Flow → Heap → Heap → Prop} {elt iter : Expr} {x y nm : Str} {px py tp pn pos spos : Pos} {kk : Nat} {scope : Scope} (lc' : List (Str × Value)) (hA : A.handled = none) (F : Fm w env G h l lc) (ok : compOk scope env = true)
    (hx : (x, NameKind.local) ∈ scope.names) (hy : (y, NameKind.local) ∈ scope.names) (hxy : x ≠ y) (hlc : ∀ p ∈ lc', p ∈ lc ∧ (p.1, NameKind.free) ∈ scope.names)
    (b : env.locals ∈ W ∨ Dead h₀ env.locals) (hn : env.kindOf nm = some .local) (hnn : noKey l nm = true)
    (hsw : swapsWith (.ListComp elt [⟨.Tuple [.Name x px, .Name y py] kk tp, iter, [], 0⟩] scope pos) (some (.Name nm pn)) spos.line env = pure true)
    (yv : T [] prog w A (eval iter env) G h (fun xv G1 h1 => ∃ (z TI TO i1 i2 a1 a2 : Addr) (vs us : List Value) (n : Nat) (Fi : Nat → Value → Heap → Prop), xv = .ref z ∧ ZipAt h1 z TI TO i1 i2 a1 a2 0 .none ∧ ZipApart z TI TO i1 i2 a1 a2 ∧ (∀ b, zipIn z TI TO i1 i2 b → Dead h b ∧ G1.get? b = none) ∧ LAt G1 a1 vs ∧ LAt G1 a2 us ∧ vs.length = n ∧ us.length = n ∧ n ≤ 1000 ∧
      (∀ i y Ga Gb, Fi i y Ga → (∀ b o, Ga.get? b = some o → Gb.get? b = some o) → Fi i y Gb) ∧
      (∀ i u v L Ga ha, i < n → vs[i]? = some u → us[i]? = some v → (∀ b o, G1.get? b = some o → Ga.get? b = some o) → Fm w (compEnv scope env L) Ga ha [(y, v), (x, u)] lc' → T [] prog w A (eval elt (compEnv scope env L)) Ga ha (fun r Gb hb => Fi i r Gb)) ∧
      ∀ a Ga ha, Ext [env.locals] G h Ga ha → LP Ga (.ref a) n (fun i u => Fi i u Ga) → Fm w env Ga ha ((nm, .ref a) :: l) lc → P .next Ga ha))
    (hs : ∀ x, foldedSetIterable iter env x = pure x := by intro _; rfl) :
    B W prog w A G₀ h₀ (exec (.Assign [.Name nm pn] (.ListComp elt [⟨.Tuple [.Name x px, .Name y py] kk tp, iter, [], 0⟩] scope pos) spos) env) G h P := fun s₀ s h0 hh g e => by
  rw [exec_Assign_Name_used _ _ _ _ hsw]
  refine wpAny_bind (wpAny_standAt (wpAny_bind ?_))
  show wpAny _ A (do let _ ← comprehension (.ListComp elt [⟨.Tuple [.Name x px, .Name y py] kk tp, iter, [], 0⟩] scope pos) scope env _ (newList []) false (eval iter env) (some (assign (.Name nm pn) env))) _ _ s
  refine wpAny_bind (wpAny_mono (comp_zip (use := some (assign (.Name nm pn) env)) (Q := fun _ s' => ∃ G', Ext W G₀ h₀ G' s'.heap ∧ GO s₀ s' ∧ P .next G' s'.heap) hA F ok hx hy hxy hlc hs hh e.into
    (yv.mono fun xv G1 h1 e1 zz => ?_)) (fun _ s' q => wpAny_pure (wpAny_pure q)) fun _ _ z => z)
  obtain ⟨z, TI, TO, i1, i2, a1, a2, vs, us, n, Fi, q1, q2, q3, q4, q5, q6, q7, q8, q9, q10, q11, fin⟩ := zz
  refine ⟨z, TI, TO, i1, i2, a1, a2, vs, us, n, Fi, q1, q2, q3, q4, q5, q6, q7, q8, q9, q10, q11, fun a Ga s' C x2 gs hl dC hd ho hn => ?_⟩
  obtain ⟨mC, hn⟩ := hn
  show wpAny _ A (assign (.Name nm pn) env (.ref a)) _ _ _
  have Fa := F.ext x2
  obtain ⟨m, hm, hml⟩ := Fa.ns
  refine wpAny_assign_Name (wpAny_storeName_local ‹env.kindOf nm = some .local› hm (fun h' hn' hsb => ?_) (by rw [F.kind]; rfl))
  have neC : C ≠ env.locals := fun q => by
    obtain ⟨o, q'⟩ := (let ⟨m, hm, _⟩ := F.ns; ns_live hm)
    have hd' : Dead h env.locals := q ▸ dC
    rw [show h.get? env.locals = none from hd'] at q'; cases q'
  refine ⟨mC, hn.sameBut hsb neC, fun h'' hsb2 => ?_⟩
  have F' := Fa.setL hm hml (noKey_of hnn) hn' hsb
  have inn : In Ga h'' := fun b o q => hsb2.extBut b o (fun z => by rw [z, ho] at q; cases q) (F'.into b o q)
  have cellLive : ∀ nn b, env.cells.lookup nn = some b → b ≠ C := fun nn b hb q => by
    obtain ⟨v, x⟩ := F.cell nn b hb
    obtain ⟨o, x, _⟩ := x
    rw [q, show h.get? C = none from dC] at x; cases x
  have F'' : Fm w env Ga h'' ((nm, .ref a) :: l) lc := F'.other (fun b o hb q => hsb2.extBut b o (fun z => by
    rcases hb with rfl | ⟨nn, hb⟩
    · exact neC z.symm
    · exact cellLive nn b hb z) q) inn
  have dC0 : Dead h₀ C := e.dead dC
  have up : ∀ {W' : List Addr} {Gx hx : Heap}, Ext W' Gx hx Ga s'.heap → (env.locals ∈ W' ∨ Dead hx env.locals) → Dead hx C → Ext W' Gx hx Ga h'' := fun u b d =>
    (u.upd hsb.extBut b (ns_live hn') Fa.offL).updD hsb2.extBut d ho
  refine ⟨Ga, up (e.weak x2 fun a m => by cases m) b dC0, ⟨g.os ▸ gs.os, (g.trans gs).gens⟩, fin a Ga h'' (up ?_ (.inl List.mem_cons_self) dC) hl F''⟩
  exact (Ext.refl e.into).weak x2 fun a m => by cases m
end
end
section
section
variable {W : List Addr} {α : Type} {prog : Program} {w : World} {A : Around} {G h G₀ h₀ : Heap} {env : Env} {l lc : List (Str × Value)}
theorem Ext.grow {h' : Heap} (hi : In G h) (k : ∀ b o, h.get? b = some o → h'.get? b = some o) : Ext W G h G h' := ⟨fun b o _ => k b o, fun b o q => ⟨o, k b o q⟩, fun _ _ q => q, fun _ o q => .inl ⟨o, q⟩, fun b o q => k b o (hi b o q)⟩
theorem T_copy {P : Value → Heap → Heap → Prop} {a : Addr} {vs : List Value} (ha : LAt G a vs) (hz : vs.length ≤ 1000) (p : ∀ c h', Dead h c → LAt h' c vs → Ext W G h G h' → P (.ref c) G h') : T W prog w A (call (.builtin "list.copy") [.ref a] []) G h P := fun s hs hi => by
  subst hs
  obtain ⟨n, q⟩ := ha
  refine call_meets PySem.F.slot_list_copy ⟨_, hi _ _ q, rfl⟩ PySem.F.entry_list_copy (PySem.F.args_list_copy_1 _) (list_copyW a vs.toArray n none #[] (by simp [sizeLine_eq]; omega)) ⟨hi _ _ q, ?_⟩
  have e : Ext W G s.heap G (s.heap.push { cls := .type "list", data := .seq vs.toArray }) := Ext.grow hi fun b o => Heap.get?_push_of_some _
  exact ⟨G, e, GO.same rfl rfl, p _ _ (dead_of (Nat.le_refl _)) ⟨_, Heap.get?_push_size _ rfl⟩ e⟩
theorem T_methodList {P : Value × List Value → Heap → Heap → Prop} {a : Addr} {vs : List Value} {pl : Sem Bool} (ha : LAt G a vs) (p : P (.builtin "list.copy", [.ref a]) G h) : T W prog w A (getMethod (.ref a) "copy" pl) G h P := fun s hs hi => by
  subst hs
  have hl := ha.keeps hi
  refine getMethod_list_of PySem.F.slot_list_copy PySem.F.type_list_copy hl.isList ?_ ⟨G, Ext.refl hi, GO.refl _, p⟩
  obtain ⟨n, q⟩ := hl
  exact ⟨_, q, rfl⟩
theorem B_freeze {t : Sem α} {P : α → Heap → Heap → Prop} {c : Addr} {o : Obj} (ho : h.get? c = some o) (hd : Dead h₀ c) (hoff : G.get? c = none) (hf : o.isFreed = false) (x : B W prog w A G₀ h₀ t (addAt G c o) h P) : B W prog w A G₀ h₀ t G h P :=
  fun s₀ s h0 hs g e => x s₀ s h0 hs g (e.freeze (hs ▸ ho) hd hoff hf)
theorem Fm.freeze {c : Addr} {o : Obj} (F : Fm w env G h l lc) (ho : h.get? c = some o) (hoff : G.get? c = none) (hf : o.isFreed = false) (ne : ∀ b, (b = env.locals ∨ ∃ n, env.cells.lookup n = some b) → b ≠ c) : Fm w env (addAt G c o) h l lc :=
  have sub := sub_addAt (G := G) (a := c) (o := o) hf hoff
  ⟨F.top.keeps sub, F.kind, F.glob, F.blt, F.ns, F.cell, F.cellv, F.apart, by rw [addAt_get hf, if_neg (ne _ (.inl rfl))]; exact F.offL, fun n x hx => by rw [addAt_get hf, if_neg (ne _ (.inr ⟨n, hx⟩))]; exact F.offC n x hx,
   fun b o' q => by
    rw [addAt_get hf] at q
    by_cases hb : b = c
    · rw [if_pos hb] at q; cases q; rw [hb]; exact ho
    · rw [if_neg hb] at q; exact F.into _ _ q, let ⟨H, a, b, k⟩ := F.base; ⟨H, a, b, fun x o' q => sub _ _ (k x o' q)⟩⟩
/-- another object has changed: one that was not there when the frame was -/
theorem Fm.upd2 {c : Addr} {h' : Heap} (F : Fm w env G h l lc) (ne : ∀ b, (b = env.locals ∨ ∃ n, env.cells.lookup n = some b) → b ≠ c) (sb : Heap.SameBut c h h') (hin : In G h') : Fm w env G h' l lc :=
  F.other (fun b o hb q => sb.extBut b o (ne b hb) q) hin
theorem Fm.ne {hb : Heap} {c : Addr} (F : Fm w env G hb l lc) (d : Dead hb c) : ∀ b, (b = env.locals ∨ ∃ n, env.cells.lookup n = some b) → b ≠ c := fun b hb' e => by
  obtain ⟨o, q⟩ := F.live hb'
  rw [e, show Heap.get? _ c = none from d] at q; cases q
theorem LAt.fz {H : Heap} {c : Addr} {vs : List Value} (x : LAt H c vs) : ∃ o, H.get? c = some o ∧ o.isFreed = false ∧ ∀ G, LAt (addAt G c o) c vs := let ⟨n, q⟩ := x; ⟨_, q, rfl, fun G => ⟨n, addAt_self rfl⟩⟩
end
end
section
/-! ## the statements' rules again, for pieces that change the addresses of W -/
section
variable {W : List Addr} {prog : Program} {w : World} {A : Around} {G h G₀ h₀ : Heap} {env : Env} {P : Flow → Heap → Heap → Prop}
theorem B_Return_w {e : Expr} {pos} (x : T W prog w A (eval e env) G h (fun v G1 h1 => P (.ret v) G1 h1)) : B W prog w A G₀ h₀ (exec (.Return (some e) pos) env) G h P := B_ReturnW (B_of_T x)
theorem B_If_w {test body orelse pos} (x : T W prog w A (isTrue test env (eval test env)) G h (fun c G1 h1 => (c = true → B W prog w A G₀ h₀ (execs body env) G1 h1 P) ∧ (c = false → B W prog w A G₀ h₀ (execs orelse env) G1 h1 P))) :
    B W prog w A G₀ h₀ (exec (.If test body orelse pos) env) G h P := fun s₀ s h0 hs g e => by
  rw [exec_If]
  refine wpAny_bind (wpAny_standAt (wpAny_bind ((B_of_T x).run h0 hs g e fun c s1 G1 e1 g1 y => ?_)))
  cases c with
  | true => exact B.run (y.1 rfl) h0 rfl g1 e1 fun a s' G' e g p => ⟨G', e, g, p⟩
  | false => exact B.run (y.2 rfl) h0 rfl g1 e1 fun a s' G' e g p => ⟨G', e, g, p⟩
theorem B_AssignB_w {x : Str} {pos' value pos} (hs : swapsWith value (some (.Name x pos')) pos.line env = pure false)
    (y : B W prog w A G₀ h₀ (eval value env) G h (fun v G1 h1 => B W prog w A G₀ h₀ (storeName env x v) G1 h1 (fun _ => P .next))) : B W prog w A G₀ h₀ (exec (.Assign [.Name x pos'] value pos) env) G h P := fun s₀ s h0 hs' g e =>
  wpAny_Assign_Name (y.run h0 hs' g e fun v s1 G1 e1 g1 z => z.run h0 rfl g1 e1 fun _ s2 G2 e2 g2 p => ⟨G2, e2, g2, p⟩) hs
theorem B_Assign_w {x : Str} {pos' value pos} (hs : swapsWith value (some (.Name x pos')) pos.line env = pure false)
    (y : T W prog w A (eval value env) G h (fun v G1 h1 => B W prog w A G₀ h₀ (storeName env x v) G1 h1 (fun _ => P .next))) : B W prog w A G₀ h₀ (exec (.Assign [.Name x pos'] value pos) env) G h P := B_AssignB_w hs (B_of_T y)
theorem B_AssignTuple_w {elts k tpos value pos} (x : T W prog w A (eval value env) G h (fun v G1 h1 => B W prog w A G₀ h₀ (assign (.Tuple elts k tpos) env v) G1 h1 (fun _ => P .next)))
    (hs : swapsWithSole [.Tuple elts k tpos] value pos.line env = pure false := by rfl) (hw : swappedStores [.Tuple elts k tpos] value env = pure none := by rfl) :
    B W prog w A G₀ h₀ (exec (.Assign [.Tuple elts k tpos] value pos) env) G h P := fun s₀ s h0 hs' g e =>
  PyProof.Rows.Assign_Tuple ((B_of_T x).run h0 hs' g e fun v s1 G1 e1 g1 z => z.run h0 rfl g1 e1 fun _ s2 G2 e2 g2 p => ⟨G2, e2, g2, p⟩) hs hw
theorem B_AssignTupleW_w {elts k tpos value pos} {names : List Str} (x : T W prog w A (eval value env) G h (fun v G1 h1 => B W prog w A G₀ h₀ (unpackItems v names.length none) G1 h1 (fun items G2 h2 =>
      B W prog w A G₀ h₀ (assignInOrder (names.reverse.map fun n => bindName env n) items.reverse) G2 h2 (fun _ => P .next))))
    (hs : swapsWithSole [.Tuple elts k tpos] value pos.line env = pure false := by rfl) (hw : swappedStores [.Tuple elts k tpos] value env = pure (some names) := by rfl) :
    B W prog w A G₀ h₀ (exec (.Assign [.Tuple elts k tpos] value pos) env) G h P := fun s₀ s h0 hs' g e =>
  PyProof.Rows.Assign_Tuple_swapped ((B_of_T x).run h0 hs' g e fun v s1 G1 e1 g1 z => z.run h0 rfl g1 e1 fun _ s2 G2 e2 g2 y => y.run h0 rfl g2 e2 fun _ s3 G3 e3 g3 p => ⟨G3, e3, g3, p⟩) hs hw
theorem B_AssignAttr_w {o attr pos' value pos} (x : T W prog w A (eval value env) G h (fun v G1 h1 => T W prog w A (eval o env) G1 h1 (fun ov G2 h2 => B W prog w A G₀ h₀ (setAttr ov attr v) G2 h2 (fun _ => P .next))))
    (hs : swapsWith value (some (.Attribute o attr pos')) pos.line env = pure false := by rfl) : B W prog w A G₀ h₀ (exec (.Assign [.Attribute o attr pos'] value pos) env) G h P := fun s₀ s h0 hs' g e =>
  plainObj_wpAny_Assign_Attribute ((B_of_T x).run h0 hs' g e fun v s1 G1 e1 g1 y => (B_of_T y).run h0 rfl g1 e1 fun ov s2 G2 e2 g2 z => z.run h0 rfl g2 e2 fun _ s3 G3 e3 g3 p => ⟨G3, e3, g3, p⟩) hs
theorem B_AssignSub_w {o i pos' value pos} (x : T W prog w A (eval value env) G h (fun v G1 h1 => T W prog w A (eval o env) G1 h1 (fun ov G2 h2 => T W prog w A (eval i env) G2 h2 (fun iv G3 h3 => B W prog w A G₀ h₀ (setItem ov iv v) G3 h3 (fun _ => P .next)))))
    (hs : swapsWith value (some (.Subscript o i pos')) pos.line env = pure false := by rfl) : B W prog w A G₀ h₀ (exec (.Assign [.Subscript o i pos'] value pos) env) G h P := fun s₀ s h0 hs' g e =>
  wpAny_Assign_Subscript ((B_of_T x).run h0 hs' g e fun v s1 G1 e1 g1 y => (B_of_T y).run h0 rfl g1 e1 fun ov s2 G2 e2 g2 z => (B_of_T z).run h0 rfl g2 e2 fun iv s3 G3 e3 g3 t => t.run h0 rfl g3 e3 fun _ s4 G4 e4 g4 p => ⟨G4, e4, g4, p⟩) hs
theorem B_AugSub_w {o i pos' op value pos} (x : T W prog w A (eval o env) G h (fun ov G1 h1 => T W prog w A (eval i env) G1 h1 (fun iv G2 h2 => T W prog w A (getItem ov iv) G2 h2 (fun old G3 h3 => T W prog w A (eval value env) G3 h3 (fun v G4 h4 =>
      T W prog w A (inplaceOp op old v) G4 h4 (fun nv G5 h5 => B W prog w A G₀ h₀ (setItem ov iv nv) G5 h5 (fun _ => P .next)))))))
    (ha : ∀ ov iv new, augStore i ov iv new = (do holding [new, ov, iv] (setItem ov iv new); release [new, ov, iv] []; pure .next) := by intro _ _ _; rfl) :
    B W prog w A G₀ h₀ (exec (.AugAssign (.Subscript o i pos') op value pos) env) G h P := fun s₀ s h0 hs' g e =>
  PyProof.Rows.wpAny_AugAssign_Subscript_any ((B_of_T x).run h0 hs' g e fun v s1 G1 e1 g1 y => (B_of_T y).run h0 rfl g1 e1 fun ov s2 G2 e2 g2 z => (B_of_T z).run h0 rfl g2 e2 fun iv s3 G3 e3 g3 t => (B_of_T t).run h0 rfl g3 e3 fun _ s4 G4 e4 g4 q =>
    (B_of_T q).run h0 rfl g4 e4 fun _ s5 G5 e5 g5 r => r.run h0 rfl g5 e5 fun _ s6 G6 e6 g6 p => ⟨G6, e6, g6, p⟩) ha
theorem B_Assert_w {test msg pos} (x : T W prog w A (isTrue test env (eval test env)) G h (fun c G1 h1 => c = true ∧ P .next G1 h1)) : B W prog w A G₀ h₀ (exec (.Assert test msg pos) env) G h P := fun s₀ s h0 hs' g e =>
  wpAny_Assert_holds ((B_of_T x).run h0 hs' g e fun c s1 G1 e1 g1 y => ⟨y.1, G1, e1, g1, y.2⟩)
end
/-! ## the tables of codes -/
def TW : List Addr := [320, 362]
def Tb (h : Heap) : Prop := ∀ P ∈ TW, ∃ ps, h.get? P = some (tabObj ps) ∧ TriplesOk ps.toList
section
variable {W : List Addr} {prog : Program} {w : World} {A : Around} {G h G₀ h₀ G' h' : Heap} {env : Env} {l lc : List (Str × Value)}
theorem Tb.keep (t : Tb h) (k : ∀ P ∈ TW, ∀ o, h.get? P = some o → h'.get? P = some o) : Tb h' := fun P hP => let ⟨ps, q, r⟩ := t P hP; ⟨ps, k P hP _ q, r⟩
theorem Tb.ext (t : Tb h) (e : Ext [] G h G' h') : Tb h' := t.keep fun P _ o q => e.keep P o (by simp) q
theorem Tb.same {a : Addr} (t : Tb h) (sb : Heap.SameBut a h h') (ha : a ∉ TW) : Tb h' := t.keep fun P hP o q => sb.extBut P o (fun e => ha (e ▸ hP)) q
theorem Tb.off {hb : Heap} (t : Tb hb) (bs : Bs [] hb env) : OffW TW env := fun a ha => by
  obtain ⟨ps, q, _⟩ := t a ha
  refine ⟨fun e => ?_, fun n c hc e => ?_⟩
  · have d : Dead hb env.locals := bs.l.elim (fun m => by cases m) id
    rw [e, show hb.get? env.locals = none from d] at q; cases q
  · have d : Dead hb c := (bs.c n c hc).elim (fun m => by cases m) id
    rw [e, show hb.get? c = none from d] at q; cases q
theorem OffW.loc {W : List Addr} (o : OffW W env) : env.locals ∉ W := fun m => (o _ m).1 rfl
theorem Ext.wk (e : Ext [] G h G' h') : Ext W G h G' h' := ⟨fun b o _ => e.keep b o (by simp), e.live, e.sub, e.fresh, e.into⟩
theorem Turns.tb {scope : Scope} {e₁ : Env} {lc' : List (Str × Value)} {x : Str} {elt : Expr} {xv : Value} {n : Nat} {Pv : Nat → Value → Prop} {Fi : Nat → Value → Heap → Prop} (hE : env = e₁) (it : Iter prog w G xv n Pv) (small : n ≤ 1000) (tb : Tb h)
    (mono : ∀ i y Ga Gb, Fi i y Ga → (∀ b o, Ga.get? b = some o → Gb.get? b = some o) → Fi i y Gb) (hx : (x, NameKind.local) ∈ scope.names)
    (turn : ∀ i v cenv L Ga ha, i < n → Pv i v → Ext TW G h Ga ha → Tb ha → cenv = compEnv scope e₁ L → OffW TW cenv → Fm w cenv Ga ha [(x, v)] lc' → T TW prog w A (eval elt cenv) Ga ha (fun u Gb hb => Fi i u Gb ∧ Tb hb)) :
    Turns TW prog w A scope env lc' x elt G h xv n Pv (fun _ => Tb) Fi :=
  ⟨it, small, tb, (fun _ _ _ t k => t.keep fun P hP o q => k P hP o q), (fun a m => let ⟨ps, q, _⟩ := tb a m; ⟨_, q⟩), mono, fun i v L Ga ha hi hv e t f1 _ o => turn i v _ L Ga ha hi hv e t (by rw [hE]) o (f1 hx)⟩
theorem Turns.tbc {scope : Scope} {e₁ : Env} {lc' : List (Str × Value)} {x : Str} {elt : Expr} {xv : Value} {n : Nat} {Pv : Nat → Value → Prop} {Fi : Nat → Value → Heap → Prop} (hE : env = e₁) (it : Iter prog w G xv n Pv) (small : n ≤ 1000) (tb : Tb h)
    (mono : ∀ i y Ga Gb, Fi i y Ga → (∀ b o, Ga.get? b = some o → Gb.get? b = some o) → Fi i y Gb) (hx : (x, NameKind.cell) ∈ scope.names)
    (turn : ∀ i v cenv L Ga ha, i < n → Pv i v → Ext TW G h Ga ha → Tb ha → cenv = compEnv scope e₁ L → OffW TW cenv → Fm w cenv Ga ha [] ((x, v) :: lc') → T TW prog w A (eval elt cenv) Ga ha (fun u Gb hb => Fi i u Gb ∧ Tb hb)) :
    Turns TW prog w A scope env lc' x elt G h xv n Pv (fun _ => Tb) Fi :=
  ⟨it, small, tb, (fun _ _ _ t k => t.keep fun P hP o q => k P hP o q), (fun a m => let ⟨ps, q, _⟩ := tb a m; ⟨_, q⟩), mono, fun i v L Ga ha hi hv e t _ f2 o => turn i v _ L Ga ha hi hv e t (by rw [hE]) o (f2 hx)⟩
end
end
section
/-! ## a generator expression whose elements make things -/
def gp (W : List Addr) (n : Nat) (G0 h0 : Heap) (C I S : Addr) (Fi : Nat → Value → Heap → Prop) : Protocol := fun m s₀ v s kap =>
  ∃ i G', i + m + 1 = n ∧ Fi i v G' ∧ Ext W G0 h0 G' s.heap ∧ GO s₀ s ∧ G'.get? C = none ∧ G'.get? I = none ∧ G'.get? S = none ∧
    (∀ b o, s₀.heap.get? b = some o → b ≠ C → b ≠ I → b ∉ W → s.heap.get? b = some o) ∧ (∃ o, s.heap.get? C = some o) ∧ (∃ o, s.heap.get? I = some o) ∧
    ∀ s'' G'', Ext W G0 h0 G'' s''.heap → (∀ b o, G'.get? b = some o → G''.get? b = some o) → G''.get? C = none → G''.get? I = none → G''.get? S = none → (∃ o, s''.heap.get? S = some o) → (∀ b, b = C ∨ b = I → ∀ o, s.heap.get? b = some o → s''.heap.get? b = some o) → kap (.send .none) s''
def gEnd (I : Addr) : GenEnd := fun n s₀ r s₁ => r = .ok .next ∧ n = 0 ∧ (∀ b o, b ≠ I → s₀.heap.get? b = some o → s₁.heap.get? b = some o) ∧ s₁.gens = s₀.gens ∧ s₁.os = s₀.os

section
variable {W : List Addr} {prog : Program} {w : World} {A : Around} {G0 h0 G1 : Heap} {cenv : Env} {lc' : List (Str × Value)} {x : Str} {C I S : Addr} {n : Nat}
theorem Fm.move {G h G' h' : Heap} {l lc : List (Str × Value)} (F : Fm w cenv G h l lc) (e : Ext W G0 h0 G h) (e' : Ext W G0 h0 G' h') (sub : ∀ b o, G.get? b = some o → G'.get? b = some o) (hoC : G'.get? cenv.locals = none)
    (kC : ∀ o, h.get? cenv.locals = some o → h'.get? cenv.locals = some o) (cl : ∀ n c, cenv.cells.lookup n = some c → (∃ o, h0.get? c = some o) ∧ c ∉ W) (hoff : ∀ n c, cenv.cells.lookup n = some c → G'.get? c = none) : Fm w cenv G' h' l lc :=
  have mv : ∀ n c v, cenv.cells.lookup n = some c → h.IsCell c v → h'.IsCell c v := fun n c v hc x => isCell_at x fun o q => by
    obtain ⟨⟨o', q'⟩, hw⟩ := cl n c hc
    rw [e.keep c o' hw q'] at q; cases q
    exact e'.keep c _ hw q'
  ⟨F.top.keeps sub, F.kind, F.glob, F.blt, let ⟨m, a, b⟩ := F.ns; ⟨m, a.at' kC, b⟩, fun n c hc => let ⟨v, x⟩ := F.cell n c hc; ⟨v, mv n c v hc x⟩,
   fun p hp => let ⟨c, hc, x⟩ := F.cellv p hp; ⟨c, hc, mv _ c _ hc x⟩, F.apart, hoC, hoff, e'.into, let ⟨H, a, b, k⟩ := F.base; ⟨H, a, b, fun x o q => sub _ _ (k x o q)⟩⟩

theorem seg_loop {elt iter : Expr} {px pos : Pos} {scope : Scope} {fp : List Addr} {Pv : Nat → Value → Prop} {Sw : Nat → Heap → Prop} {Fi : Nat → Value → Heap → Prop}
    (hh : A.handled = none) (W₀ : ∀ A' : Around, A'.handled = none → Walks prog w A' I fp [I] n Pv Sw) (hfp : ∀ b ∈ fp, b ≠ I → ∃ o, G1.get? b = some o) (hlv : ∀ i h, Sw i h → ∃ o, h.get? I = some o)
    (hx : cenv.kindOf x = some .local) (hk : cenv.scope.kind = .function) (hco : cenv.scope.isCoroutine = false) (hCI : C ≠ I) (hC : cenv.locals = C) (dC : Dead h0 C) (dI : Dead h0 I) (hCW : C ∉ W) (hIW : I ∉ W)
    (cl : ∀ n c, cenv.cells.lookup n = some c → (∃ o, h0.get? c = some o) ∧ c ∉ W ∧ G0.get? c = none)
    (elt_ : ∀ (A' : Around) i v Ga ha, A'.handled = none → (∃ d, A'.depth = d) → i < n → Pv i v → Ext W G0 h0 Ga ha → (∀ b o, G1.get? b = some o → Ga.get? b = some o) → Fm w cenv Ga ha [(x, v)] lc' → OffW W cenv →
      (A' = A.over (.compLoop (.GeneratorExp elt [⟨.Name x px, iter, [], 0⟩] scope pos) 0 (.ref I) .none cenv) []) → T W prog w A' (eval elt cenv) Ga ha (fun u Gb hb => Fi i u Gb)) :
    ∀ (k i : Nat) (s₀ s : Shared) (G' : Heap), n - i = k → i ≤ n → Sw i s.heap → Fm w cenv G' s.heap [] lc' → Ext W G0 h0 G' s.heap → (∀ b o, G1.get? b = some o → G'.get? b = some o) → G'.get? I = none → G'.get? S = none → (∃ o, s.heap.get? S = some o) →
      (s.heap = s₀.heap ∧ s.gens = s₀.gens ∧ s.os = s₀.os) →
      Seg (model prog w) A (gEnd I) (gp W n G0 h0 C I S Fi) (n - i) s₀ (.compLoop (.GeneratorExp elt [⟨.Name x px, iter, [], 0⟩] scope pos) 0 (.ref I) .none cenv)
        ((model prog w).den (.compLoop (.GeneratorExp elt [⟨.Name x px, iter, [], 0⟩] scope pos) 0 (.ref I) .none cenv)) [] s := by
  have hh' : (A.over (.compLoop (.GeneratorExp elt [⟨.Name x px, iter, [], 0⟩] scope pos) 0 (.ref I) .none cenv) []).handled = none := hh
  intro k
  induction k with
  | zero =>
    intro i s₀ s G' hki hi hst F e sub oI oS lS hs0
    have hin : i = n := by omega
    subst hin
    show Seg _ A _ _ _ s₀ _ ((compTurn (.GeneratorExp elt [⟨.Name x px, iter, [], 0⟩] scope pos) 0 (.ref I) .none cenv).onRaise (leaving cenv)) [] s
    rw [compTurn_gen, Sem.onRaise_eq_wrap]
    refine seg_bind_wrap (wpAny_standAt ?_)
    refine seg_bind_wrap ((W₀ _ hh').done s _ _ hst fun h' tk hk' => ?_)
    exact seg_end (.ok .next) ⟨rfl, by omega, fun b o hb q => hk' b o (by simpa using hb) (hs0.1 ▸ q), hs0.2.1, hs0.2.2⟩
  | succ k ih =>
    intro i s₀ s G' hki hi hst F e sub oI oS lS hs0
    have hlt : i < n := by omega
    have e1 : n - i = (n - (i + 1)) + 1 := by omega
    rw [e1]
    show Seg _ A _ _ _ s₀ _ ((compTurn (.GeneratorExp elt [⟨.Name x px, iter, [], 0⟩] scope pos) 0 (.ref I) .none cenv).onRaise (leaving cenv)) [] s
    rw [compTurn_gen, Sem.onRaise_eq_wrap]
    refine seg_bind_wrap (wpAny_standAt ?_)
    refine seg_bind_wrap ((W₀ _ hh').item i s _ _ hlt hst fun v h1 tk1 hPv hst1 hk1 => ?_)
    have hk1' : ∀ b o, b ≠ I → s.heap.get? b = some o → h1.get? b = some o := fun b o hb q => hk1 b o (by simpa using hb) q
    have ex1 : Ext W G0 h0 G' h1 := e.updD hk1' dI oI
    have cellI : ∀ n c, cenv.cells.lookup n = some c → c ≠ I ∧ c ≠ C := fun n c hc => by
      obtain ⟨⟨o, q⟩, _⟩ := cl n c hc
      refine ⟨fun z => ?_, fun z => ?_⟩
      · rw [z, show h0.get? I = none from dI] at q; cases q
      · rw [z, show h0.get? C = none from dC] at q; cases q
    have F1 : Fm w cenv G' h1 [] lc' := F.other (fun b o hb q => hk1' b o (by
      rcases hb with rfl | ⟨nn, hb⟩
      · rw [hC]; exact hCI
      · exact (cellI nn b hb).1) q) ex1.into
    refine seg_bind_wrap (wpAny_of_eq (rfl : letOwnedTupleGo (.Name x px) (.ref I) v = pure ()) ?_)
    obtain ⟨m1, hm1, hml1⟩ := F1.ns
    refine seg_bind_wrap (wpAny_assign_Name (wpAny_storeName_local hx hm1 (fun h2 hn2 sb2 => ?_) (by rw [hk]; rfl)))
    have F2 := F1.setL (v := v) hm1 hml1 (fun p hp => by cases hp) hn2 sb2
    have ex2 : Ext W G0 h0 G' h2 := ex1.updD (fun b o hb q => sb2.extBut b o (by rw [hC]; exact hb) q) dC (hC ▸ F.offL)
    have hst2 : Sw (i + 1) h2 := by
      refine (W₀ A hh).frame _ _ _ hst1 fun b hb o' q' => ?_
      by_cases hbI : b = I
      · subst hbI; exact sb2.extBut _ _ (by rw [hC]; exact hCI.symm) q'
      · obtain ⟨o'', z⟩ := hfp b hb hbI
        have z1 := ex2.into _ _ (sub _ _ z)
        have z2 := ex1.into _ _ (sub _ _ z)
        rw [z2] at q'; cases q'; exact z1
    simp only [List.forIn_nil]
    refine seg_bind_wrap (wpAny_pure ?_)
    simp only [if_true]
    have hy : ∀ v, yieldOut cenv v = yieldValue v := fun v => by simp only [yieldOut, hco, Bool.false_eq_true, if_false]
    simp only [hy]
    rw [Sem.bind_eq_wrap', Sem.bind_eq_wrap', Sem.wrap_wrap, Sem.wrap_wrap]
    have offw : OffW W cenv := fun a ha => ⟨fun z => hCW (hC ▸ z ▸ ha), fun nn c hc z => (cl nn c hc).2.1 (z ▸ ha)⟩
    have tt := elt_ _ i v G' h2 hh' ⟨_, rfl⟩ hlt hPv ex2 sub F2 offw rfl
    refine seg_wrap (wpAny_mono (tt { s with heap := h2, toks := tk1 + 1 } rfl ex2.into) (fun u s4 h4 => ?_) fun _ _ z => z.elim)
    obtain ⟨G4, e4, g4, hF⟩ := h4
    have ex4 : Ext W G0 h0 G4 s4.heap := ex2.trans e4
    have oI4 : G4.get? I = none := off_ext e4 oI (hlv _ _ hst2)
    have lS2 : ∃ o, h2.get? S = some o := by
      by_cases z1 : S = I
      · exact z1 ▸ hlv _ _ hst2
      · by_cases z2 : S = C
        · have := F2.live (b := cenv.locals) (.inl rfl); rw [hC, ← z2] at this; exact this
        · obtain ⟨o, q⟩ := lS
          exact ⟨o, sb2.extBut _ _ (by rw [hC]; exact z2) (hk1' _ _ z1 q)⟩
    have oS4 : G4.get? S = none := off_ext e4 oS lS2
    have F4 := (F2.ext e4 offw).weak (l' := []) (lc' := lc') (fun p hp => by cases hp) fun p hp => hp
    have g04 : GO s₀ s4 := ⟨g4.os.trans hs0.2.2, by obtain ⟨j, hj⟩ := g4.gens; exact ⟨j, by rw [hj]; show s.gens ++ _ = _; rw [hs0.2.1]⟩⟩
    refine seg_at (seg_yield rfl rfl rfl ⟨i, G4, by omega, hF, ex4, g04, hC ▸ F4.offL, oI4, oS4, fun b o q h1' h2' h3' => ?_, hC ▸ F4.live (.inl rfl), (let ⟨o, q⟩ := hlv _ _ hst2; ⟨o, e4.keep _ _ hIW q⟩), fun s'' G'' e'' sub'' oC'' oI'' oS'' lS'' kk => ?_⟩)
    · rw [← hs0.1] at q
      exact e4.keep b o h3' (sb2.extBut b o (by rw [hC]; exact h1') (hk1' b o h2' q))
    have F'' : Fm w cenv G'' s''.heap [] lc' := F4.move ex4 e'' sub'' (hC ▸ oC'') (fun o q => kk _ (.inl hC) o q) (fun nn c hc => ⟨(cl nn c hc).1, (cl nn c hc).2.1⟩) (fun nn c hc => off_ext (W := W) e'' (cl nn c hc).2.2 (cl nn c hc).1)
    have hst'' : Sw (i + 1) s''.heap := by
      have hst4 : Sw (i + 1) s4.heap := (W₀ A hh).frame _ _ _ hst2 fun b hb o' q' => by
        by_cases hbI : b = I
        · subst hbI; exact e4.keep _ _ hIW q'
        · obtain ⟨o'', z⟩ := hfp b hb hbI
          have z1 := ex4.into _ _ (e4.sub _ _ (sub _ _ z))
          have z2 := ex2.into _ _ (sub _ _ z)
          rw [z2] at q'; cases q'; exact z1
      refine (W₀ A hh).frame _ _ _ hst4 fun b hb o' q' => ?_
      by_cases hbI : b = I
      · exact kk b (.inr hbI) o' q'
      · obtain ⟨o'', z⟩ := hfp b hb hbI
        have z1 := e''.into _ _ (sub'' _ _ (e4.sub _ _ (sub _ _ z)))
        have z2 := ex4.into _ _ (e4.sub _ _ (sub _ _ z))
        rw [z2] at q'; cases q'; exact z1
    exact seg_again rfl (ih (i + 1) s'' s'' G'' (by omega) hlt hst'' F'' e'' (fun b o q => sub'' _ _ (e4.sub _ _ (sub _ _ q))) oI'' oS'' lS'' ⟨rfl, rfl, rfl⟩)
end
end
section
/-! ## heaps joined -/
def uni (G1 G2 : Heap) : Heap := { G1 with objs := Array.ofFn (n := max G1.objs.size G2.objs.size) fun i => match G1.get? i with | some o => o | none => match G2.get? i with | some o => o | none => freedObj }
theorem get_not_freed {G : Heap} {b : Addr} {o : Obj} (e : G.get? b = some o) : o.isFreed = false := by
  unfold Heap.get? at e
  cases q : G.objs[b]? with
  | none => rw [q] at e; cases e
  | some o' =>
    rw [q] at e
    obtain ⟨c, d, dt, sl⟩ := o'
    cases dt <;> first | (cases e; rfl) | cases e
theorem get_of_arr {G : Heap} {b : Addr} {o : Obj} (e : G.objs[b]? = some o) (hf : o.isFreed = false) : G.get? b = some o := by
  unfold Heap.get?
  rw [e]
  obtain ⟨c, d, dt, sl⟩ := o
  cases dt <;> first | rfl | (exfalso; revert hf; simp [Obj.isFreed])
theorem get_freed {G : Heap} {b : Addr} (e : G.objs[b]? = some freedObj ∨ G.objs[b]? = none) : G.get? b = none := by
  unfold Heap.get?
  rcases e with e | e <;> rw [e] <;> rfl
theorem uni_get (G1 G2 : Heap) (b : Addr) : (uni G1 G2).get? b = (match G1.get? b with | some o => some o | none => G2.get? b) := by
  have hm1 : G1.objs.size ≤ max G1.objs.size G2.objs.size := Nat.le_max_left _ _
  have hm2 : G2.objs.size ≤ max G1.objs.size G2.objs.size := Nat.le_max_right _ _
  by_cases hb : b < max G1.objs.size G2.objs.size
  · have e : (uni G1 G2).objs[b]? = some (match G1.get? b with | some o => o | none => match G2.get? b with | some o => o | none => freedObj) := by
      show (Array.ofFn _)[b]? = _
      rw [Array.getElem?_ofFn, dif_pos hb]
    cases q1 : G1.get? b with
    | some o => rw [q1] at e; exact get_of_arr e (get_not_freed q1)
    | none =>
      rw [q1] at e
      cases q2 : G2.get? b with
      | some o => rw [q2] at e; exact get_of_arr e (get_not_freed q2)
      | none => rw [q2] at e; exact get_freed (.inl e)
  · have n1 : G1.get? b = none := dead_of (Nat.le_trans hm1 (Nat.not_lt.mp hb))
    have n2 : G2.get? b = none := dead_of (Nat.le_trans hm2 (Nat.not_lt.mp hb))
    rw [n1, n2]
    refine get_freed (.inr ?_)
    show (Array.ofFn _)[b]? = _
    rw [Array.getElem?_ofFn, dif_neg hb]
/-- two frozen parts of one heap are one -/
theorem Ext.uni {W : List Addr} {G0 h0 G1 G2 h : Heap} (e1 : Ext W G0 h0 G1 h) (e2 : Ext W G0 h0 G2 h) : Ext W G0 h0 (uni G1 G2) h :=
  ⟨e1.keep, e1.live, fun b o q => by rw [uni_get, e1.sub b o q], fun b o q => by
    rw [uni_get] at q
    cases q1 : G1.get? b with
    | some o' => exact e1.fresh b o' q1
    | none => rw [q1] at q; exact e2.fresh b o q, fun b o q => by
    rw [uni_get] at q
    cases q1 : G1.get? b with
    | some o' => rw [q1] at q; cases q; exact e1.into b _ q1
    | none => rw [q1] at q; exact e2.into b o q⟩
theorem uni_l {G1 G2 : Heap} : ∀ b o, G1.get? b = some o → (uni G1 G2).get? b = some o := fun b o q => by rw [uni_get, q]
theorem uni_r {G1 G2 h : Heap} (i1 : In G1 h) (i2 : In G2 h) : ∀ b o, G2.get? b = some o → (uni G1 G2).get? b = some o := fun b o q => by
  rw [uni_get]
  cases q1 : G1.get? b with
  | some o' => have := i1 _ _ q1; rw [i2 _ _ q] at this; exact this.symm
  | none => exact q
theorem uni_none {G1 G2 : Heap} {b : Addr} (a : G1.get? b = none) (c : G2.get? b = none) : (uni G1 G2).get? b = none := by rw [uni_get, a]; exact c
section
variable {M : Model} {A : Around} {E : Value → Shared → Prop} {s : Shared}
/-- the code of a generator expression: laid once, found ever after -/
theorem genexprCode_any {env : Env} {c P : Addr} {ps : Array Value} {pos : Pos} {qualname : Str} {scope : Scope} {Q : Value → Shared → Prop} (hc : env.code = .ref c) (hok : s.heap.IsCode c P ps) (htab : s.heap.TableAt c P ps)
    (hQ : ∀ code h' tk ps', Heap.ExtBut P s.heap h' → h'.IsCode c P ps' → h'.TableAt c P ps' → Q code { s with heap := h', toks := tk }) : wpAny M A (genexprCode env pos qualname scope) Q E s := by
  cases hnf : codeAmong pos ps.toList with
  | none => exact wpAny_genexprCodeX hc hok htab hnf fun c' h' tk hx _ _ hcode _ ht _ => hQ _ _ _ _ hx hcode ht
  | some cv =>
    obtain ⟨o, vs, file, tf, flags, tg, inF, text, tt, op, ho, hd, h11, h2, h7, h9, h10, hop, hpd, htr, hne⟩ := id hok
    unfold genexprCode codeAt
    rw [hc, if_neg (show ¬ ((Value.ref c == Value.none) = true) from Bool.false_ne_true)]
    refine wpAny_bind (wpAny_fieldsOf ho hd ?_)
    rw [h11]
    refine wpAny_bind (wpAny_fieldsOf hop hpd ?_)
    rw [hnf]
    exact wpAny_pure (hQ cv s.heap s.toks ps (Heap.ExtBut.refl _ _) hok htab)
end
end
section
/-- the list of generators: g may have changed, what is new is finished -/
def GX (g : Nat) (a b : Array GenState) : Prop := a.size ≤ b.size ∧ (∀ i, i < a.size → i ≠ g → b[i]? = a[i]?) ∧ ∀ i, a.size ≤ i → i < b.size → b[i]? = some .finished
theorem GX.refl {g : Nat} {a : Array GenState} : GX g a a := ⟨Nat.le_refl _, fun _ _ _ => rfl, fun i h1 h2 => absurd h2 (Nat.not_lt.mpr h1)⟩
theorem GX.trans {g : Nat} {a b c : Array GenState} (hg : g < a.size) (x : GX g a b) (y : GX g b c) : GX g a c := ⟨Nat.le_trans x.1 y.1, fun i h n => (y.2.1 i (Nat.lt_of_lt_of_le h x.1) n).trans (x.2.1 i h n), fun i h1 h2 => by
  rcases Nat.lt_or_ge i b.size with h | h
  · rw [y.2.1 i h (by omega)]; exact x.2.2 i h1 h
  · exact y.2.2 i h h2⟩
theorem GX.go {g : Nat} {s s' : Shared} (x : GO s s') : GX g s.gens s'.gens := by
  obtain ⟨k, e⟩ := x.gens
  rw [e]
  refine ⟨by simp, fun i h _ => ?_, fun i h1 h2 => ?_⟩
  · rw [Array.getElem?_append_left h]
  · have h2' : i < s.gens.size + k := by simpa using h2
    rw [Array.getElem?_append_right h1, Array.getElem?_replicate, if_pos (by omega)]
theorem GX.set {g : Nat} {s : Shared} {x : GenState} : GX g s.gens (s.setGen g x).gens := by
  refine ⟨by simp [Shared.setGen], fun i h n => by simp [Shared.setGen, Ne.symm n], fun i h1 h2 => ?_⟩
  simp [Shared.setGen] at h2; omega
theorem GO.of_gx {s s' : Shared} {x : GenState} (hos : s'.os = s.os) (h : GX s.gens.size (s.gens.push x) s'.gens) (hf : s'.gens[s.gens.size]? = some .finished) : GO s s' := by
  obtain ⟨h1, h2, h3⟩ := h
  simp only [Array.size_push] at h1 h2 h3
  refine ⟨hos, s'.gens.size - s.gens.size, ?_⟩
  apply Array.ext_getElem?
  intro i
  rcases Nat.lt_or_ge i s.gens.size with h | h
  · rw [h2 i (by omega) (by omega), Array.getElem?_push_lt h, Array.getElem?_append_left h, Array.getElem?_eq_getElem h]
  · rw [Array.getElem?_append_right h]
    rcases Nat.lt_or_ge i s'.gens.size with h' | h'
    · have e : s'.gens[i]? = some .finished := by
        by_cases q : i = s.gens.size
        · rw [q]; exact hf
        · exact h3 i (by omega) h'
      rw [e, Array.getElem?_replicate, if_pos (by omega)]
    · rw [Array.getElem?_eq_none h', Array.getElem?_replicate, if_neg (by omega)]

/-- a generator that has given j of its n values -/
structure GenSt (W : List Addr) (prog : Program) (w : World) (A : Around) (n : Nat) (G0 h0 : Heap) (C I S : Addr) (Fi : Nat → Value → Heap → Prop) (a : Addr) (g : Nat) (j : Nat) (s : Shared) (Gc : Heap) : Prop where
  gen : s.heap.IsGen a g
  ext : Ext W G0 h0 Gc s.heap
  oC : Gc.get? C = none
  oI : Gc.get? I = none
  lC : ∃ o, s.heap.get? C = some o
  lI : ∃ o, s.heap.get? I = some o
  goes : ∃ gs, s.gens[g]? = some gs ∧ ∀ s'' G'', Ext W G0 h0 G'' s''.heap → (∀ b o, Gc.get? b = some o → G''.get? b = some o) → G''.get? C = none → G''.get? I = none → G''.get? S = none → (∃ o, s''.heap.get? S = some o) → (∀ b, b = C ∨ b = I → ∀ o, s.heap.get? b = some o → s''.heap.get? b = some o) →
    gs.Goes (model prog w) A.in1 (gEnd I) (gp W n G0 h0 C I S Fi) (n - j) (.send .none) s''

section
variable {W : List Addr} {prog : Program} {w : World} {A : Around} {G0 h0 Gc : Heap} {C I S a : Addr} {g n j : Nat} {Fi : Nat → Value → Heap → Prop} {s : Shared} {E : Value → Shared → Prop} {Q : Option Value → Shared → Prop}
theorem GenSt.move (x : GenSt W prog w A n G0 h0 C I S Fi a g j s Gc) {s' : Shared} {G' : Heap} (e : Ext W G0 h0 G' s'.heap) (sub : ∀ b o, Gc.get? b = some o → G'.get? b = some o) (oC : G'.get? C = none) (oI : G'.get? I = none)
    (k : ∀ b, b = C ∨ b = I ∨ b = a → ∀ o, s.heap.get? b = some o → s'.heap.get? b = some o) (hg : s'.gens[g]? = s.gens[g]?) : GenSt W prog w A n G0 h0 C I S Fi a g j s' G' :=
  ⟨let ⟨o, nm, qn, ho, r⟩ := x.gen; ⟨o, nm, qn, k a (.inr (.inr rfl)) o ho, r⟩, e, oC, oI, let ⟨o, q⟩ := x.lC; ⟨o, k _ (.inl rfl) o q⟩, let ⟨o, q⟩ := x.lI; ⟨o, k _ (.inr (.inl rfl)) o q⟩,
   let ⟨gs, h1, h2⟩ := x.goes; ⟨gs, hg.trans h1, fun s'' G'' e'' sub'' c'' i'' o'' l'' kk => h2 s'' G'' e'' (fun b o q => sub'' _ _ (sub _ _ q)) c'' i'' o'' l'' fun b hb o q => kk b hb o (k b (hb.elim .inl fun h => .inr (.inl h)) o q)⟩⟩
theorem GenSt.item (hh : A.handled = none) (hroom : A.depth < recursionLimit) (hl : s.heap.NoLimit) (x : GenSt W prog w A n G0 h0 C I S Fi a g j s Gc) (hj : j < n) (ha : a ≠ C ∧ a ≠ I ∧ a ∉ W) (oS : Gc.get? S = none) (lS : ∃ o, s.heap.get? S = some o)
    (hQ : ∀ v s' G', Fi j v G' → G'.get? S = none → GenSt W prog w A n G0 h0 C I S Fi a g (j + 1) s' G' → (∀ b o, s.heap.get? b = some o → b ≠ C → b ≠ I → b ∉ W → s'.heap.get? b = some o) → s'.os = s.os → GX g s.gens s'.gens → Q (some v) s') :
    wpAny (model prog w) A (pyNext (.ref a)) Q E s := by
  obtain ⟨gs, hgs, hgo⟩ := x.goes
  obtain ⟨m, hm⟩ : ∃ m, n - j = m + 1 := ⟨n - j - 1, by omega⟩
  rw [hm] at hgo
  refine wpAny_pyNext_genexp (P := fun n s₀ s₁ => n = 0 ∧ (∀ b o, b ≠ I → s₀.heap.get? b = some o → s₁.heap.get? b = some o) ∧ s₁.gens = s₀.gens ∧ s₁.os = s₀.os) hh hl hroom x.gen hgs
    (hgo _ Gc x.ext (fun _ _ q => q) x.oC x.oI oS lS fun _ _ _ e => e) (fun v s₁ gs' hv => ?_) (fun s₁ hp h' hk => ?_)
  · obtain ⟨i, G', hi, hF, ex, go, oC, oI, oS', kp, lC, lI, kap⟩ := hv
    have hij : i = j := by omega
    subst hij
    have keep : ∀ b o, s.heap.get? b = some o → b ≠ C → b ≠ I → b ∉ W → s₁.heap.get? b = some o := kp
    refine hQ v (s₁.setGen g gs') G' hF oS' ⟨let ⟨o, nm, qn, ho, r⟩ := x.gen; ⟨o, nm, qn, keep a o ho ha.1 ha.2.1 ha.2.2, r⟩, ex, oC, oI, lC, lI, gs', ?_, fun s'' G'' e'' sub'' c'' i'' o'' l'' kk => ?_⟩ keep go.os ?_
    · have : g < s₁.gens.size := by
        have h1 : g < s.gens.size := by
          rcases Nat.lt_or_ge g s.gens.size with h | h
          · exact h
          · rw [Array.getElem?_eq_none h] at hgs; cases hgs
        obtain ⟨k, e⟩ := go.gens
        rw [e]; simp [Shared.setGen]; omega
      simp [Shared.setGen, this]
    · have e : n - (i + 1) = m := by omega
      rw [e]
      exact kap s'' G'' e'' sub'' c'' i'' o'' l'' kk
    · have hg : g < s.gens.size := by
        rcases Nat.lt_or_ge g s.gens.size with h | h
        · exact h
        · rw [Array.getElem?_eq_none h] at hgs; cases hgs
      have h1 : GX g s.gens (s.setGen g .running).gens := GX.set
      have h2 : GX g (s.setGen g .running).gens s₁.gens := GX.go go
      have h3 : GX g s₁.gens (s₁.setGen g gs').gens := GX.set
      exact (h1.trans hg h2).trans hg h3
  · exact absurd hp.1 (Nat.succ_ne_zero m)
theorem GenSt.done (hh : A.handled = none) (hroom : A.depth < recursionLimit) (hl : s.heap.NoLimit) (x : GenSt W prog w A n G0 h0 C I S Fi a g n s Gc) (dI : Dead h0 I) (hSW : S ∉ W) (oS : Gc.get? S = none) (lS : ∃ o, s.heap.get? S = some o)
    (hQ : ∀ s', Ext W G0 h0 Gc s'.heap → (∀ b o, s.heap.get? b = some o → b ≠ I → s'.heap.get? b = some o) → s'.os = s.os → GX g s.gens s'.gens → s'.gens[g]? = some .finished → Q none s') :
    wpAny (model prog w) A (pyNext (.ref a)) Q E s := by
  obtain ⟨gs, hgs, hgo⟩ := x.goes
  rw [Nat.sub_self] at hgo
  refine wpAny_pyNext_genexp (P := fun n s₀ s₁ => n = 0 ∧ (∀ b o, b ≠ I → s₀.heap.get? b = some o → s₁.heap.get? b = some o) ∧ s₁.gens = s₀.gens ∧ s₁.os = s₀.os) hh hl hroom x.gen hgs
    (hgo _ Gc x.ext (fun _ _ q => q) x.oC x.oI oS lS fun _ _ _ e => e) (fun v s₁ gs' hv => ?_) (fun s₁ hp h' hk => ?_)
  · obtain ⟨i, G', hi, hF, ex, go, oC, oI, oS', kp, lC, lI, kap⟩ := hv
    exact (kap s₁ G' ex (fun _ _ q => q) oC oI oS' (by by_cases z1 : S = C; exact z1 ▸ lC; by_cases z2 : S = I; exact z2 ▸ lI; obtain ⟨o, q⟩ := lS; exact ⟨o, kp _ _ q z1 z2 hSW⟩) fun _ _ _ q => q).elim
  · obtain ⟨_, k1, k2, k3⟩ := hp
    have hg : g < s.gens.size := by
      rcases Nat.lt_or_ge g s.gens.size with h | h
      · exact h
      · rw [Array.getElem?_eq_none h] at hgs; cases hgs
    refine hQ _ (x.ext.updD (fun b o hb q => hk b o (k1 b o hb q)) dI x.oI) (fun b o q hb => hk b o (k1 b o hb q)) k3 ?_ ?_
    · have h1 : GX g s.gens (s.setGen g .running).gens := GX.set
      have h2 : GX g s₁.gens (s₁.setGen g .finished).gens := GX.set
      rw [k2] at h2
      have h3 := h1.trans hg h2
      show GX g s.gens (s₁.setGen g .finished).gens
      have e : (s₁.setGen g .finished).gens = ((s.setGen g .running).setGen g .finished).gens := by simp [Shared.setGen, k2]
      rw [e]
      exact h1.trans hg GX.set
    · have : g < s₁.gens.size := by rw [k2]; simp [Shared.setGen]; exact hg
      show (s₁.setGen g .finished).gens[g]? = _
      simp [Shared.setGen, this]
end
end
section
section
variable {W : List Addr} {prog : Program} {w : World} {A : Around} {G h : Heap} {P : Value → Heap → Heap → Prop} {x K : Addr} {m : Str → Option Value}
theorem int_add_declines {M : Model} {a : Int} {t : Tok} {x : Addr} {o : Obj} {s : Shared} {Q : Fin → Shared → Prop} {E : Value → Shared → Prop} (ho : s.heap.get? x = some o) (hp : o.data = .plain) (q : Q (.done (.ret .notImplemented)) s) :
    wpAny M A (Builtin.«int.__add__» ⟨[.int a t, .ref x], []⟩) Q E s := by
  obtain ⟨hp', g, d, tk, os⟩ := s
  wp_walk
  rw [hp]
  wp_walk
  exact q
theorem int_add_declines' {i : Int} {t : Tok} {x : Addr} {o : Obj} {s : Shared} {Q : Option Value → Shared → Prop} {E : Value → Shared → Prop} (ho : s.heap.get? x = some o) (hp : o.data = .plain) (q : Q none s) :
    wpAny (model prog w) A (tryMethod (.int i t) (PySem.dunder "add") (.ref x)) Q E s :=
  @wpAny_tryMethod_declines (model prog w) A E s (.int i t) (.ref x) "int" (PySem.dunder "add") "int.__add__" Q (typeIs_int s i t) PySem.F.slot_int_add
    (@wpAny_call_entry prog w A E s "int" (PySem.dunder "add") "int.__add__" _ (.int i t) [.ref x] _ PySem.F.slot_int_add (typeIs_int s i t) PySem.F.entry_int_add (int_add_declines ho hp ⟨_, rfl, rfl, q⟩) (PySem.F.args_int_add_2 _ _))
/-- whole number + an own object: the number declines, the object's reflected method answers -/
theorem radd_run {f fa : Addr} {i : Int} {t : Tok} {dx : Obj} {od : Option Obj} {s : Shared} {Q E : Value → Shared → Prop} {K' : Frag} (X : K'.In s.heap) (I : InstAt s.heap x dx K od) (hod : dx.data = .plain)
    (hs : findIn K' (.ref K) (PySem.dunder "add") = some (some (.ref fa))) (hr : findIn K' (.ref K) (dunderR "add") = some (some (.ref f)))
    (hsub : subIn K' (.ref K) (.type "int") = some false) (hc : selfFirst K' K = true) (hf : isFn K' (.ref f) = true) 
    (h : wpAny (model prog w) A (call (.ref f) [.ref x, .int i t]) (PySem.W.CmpBack Q) E s) :
    wpAny (model prog w) A (binaryOp .Add (.int i t) (.ref x)) Q E s := by
  obtain ⟨cd, rest, hcd, hm⟩ := ksp_first hc
  have one := ksp_try X I hr hf h
  have dec : ∀ (Q' : Option Value → Shared → Prop), Q' none s → wpAny (model prog w) A (tryMethod (.int i t) (PySem.dunder "add") (.ref x)) Q' E s := fun Q' q => by
    exact int_add_declines' I.at_ hod q
  obtain ⟨hh, g, d, tt, os⟩ := s
  have L1 : Looks (model prog w) hh (typeOf (.int i t)) (.type "int") := Looks.of_pure rfl
  have L2 : Looks (model prog w) hh (typeOf (.ref x)) (.ref K) := I.type
  have L3 : Looks (model prog w) hh (fillsNumberSlot (.ref K) "add") true := fills_K X hcd hm hs
  have L4 : Looks (model prog w) hh (fillsNumberSlot (.type "int") "add") true := Looks.of_pure PySem.F.fills_int_add
  have L5 : Looks (model prog w) hh (isSubtype (.ref K) (.type "int")) false := looks_subIn X hsub
  have L7 : Looks (model prog w) hh (numberSlotInPython (.type "int") "add") false := Looks.of_pure rfl
  have hne : (Value.type "int" == Value.ref K) = false := Bool.eq_false_iff.mpr fun q => by cases beq_iff_eq.mp q
  have hi : Operator.Add.info = ("+", "add") := rfl
  simp only [binaryOp, hi]
  refine wpAny_holding (wpAny_bind ?_)
  unfold binaryOp1
  refine wpAny_bind (L1.at (wpAny_bind (L2.at (wpAny_bind (L4.at ?_)))))
  simp only [hne, Bool.false_eq_true, if_false]
  refine wpAny_bind (L3.at ?_)
  ksp_lk
  refine dec _ ?_
  ksp_lk
  refine wpAny_mono one (fun r s' hr' => ?_) fun _ _ e => e
  obtain ⟨v, rfl, hq⟩ := hr'
  ksp_lk
  exact hq
theorem T_raddOwn {f fa : Addr} {i : Int} {t : Tok} (top : TopG w G) (I : In G h → Ins h x K m)
    (hs : findIn (KK w) (.ref K) (PySem.dunder "add") = some (some (.ref fa))) (hr : findIn (KK w) (.ref K) (dunderR "add") = some (some (.ref f)))
    (y : T W prog w A (call (.ref f) [.ref x, .int i t]) G h (fun v G' h' => v ≠ .notImplemented ∧ P v G' h'))
    (hsub : subIn (KK w) (.ref K) (.type "int") = some false := by kernel_rfl) (hc : selfFirst (KK w) K = true := by kernel_rfl) (hf : isFn (KK w) (.ref f) = true := by kernel_rfl) :
    T W prog w A (binaryOp .Add (.int i t) (.ref x)) G h P := fun s hs' hi => by
  have z := y s hs' hi
  subst hs'
  have X : (KK w).In s.heap := top.k.keeps hi
  obtain ⟨dx, od, J, hod, hl⟩ := (I hi).at_
  refine radd_run X J rfl hs hr hsub hc hf (wpAny_mono z (fun v s' q => ?_) fun _ _ z => z)
  obtain ⟨G', e, g, n, p⟩ := q
  cases v <;> first | exact ⟨G', e, g, p⟩ | exact (n rfl).elim
end
end
section
/-! ## sum over a generator -/
def sumObj (v : Value) (c : Nat) : Obj := { cls := .type "list", dict := none, data := .seq #[v] c, slots := #[] }
section
variable {W : List Addr} {prog : Program} {w : World} {A : Around} {G0 h0 : Heap} {C I S a : Addr} {g n : Nat} {Fi Ac : Nat → Value → Heap → Prop} {R : Result → Shared → Prop}
theorem sum_loop (hh : A.in1.handled = none) (hroom : A.in1.depth < recursionLimit) (hl0 : G0.NoLimit) (i0 : In G0 h0)
    (hw : ∀ b ∈ W, G0.get? b = none ∧ ∃ o, h0.get? b = some o) (ha : a ≠ C ∧ a ≠ I ∧ a ∉ W) (hSC : S ≠ C) (hSI : S ≠ I) (hSa : S ≠ a) (hSW : S ∉ W) (dC : Dead h0 C) (dI : Dead h0 I) (dS : Dead h0 S) (dA : Dead h0 a)
    (mF : ∀ i v G G', (∀ b o, G.get? b = some o → G'.get? b = some o) → Fi i v G → Fi i v G') (mA : ∀ i v G G', (∀ b o, G.get? b = some o → G'.get? b = some o) → Ac i v G → Ac i v G')
    (ref : ∀ i v G, Fi i v G → ∃ x, v = .ref x) (refA : ∀ i v G, 0 < i → Ac i v G → ∃ x, v = .ref x)
    (add : ∀ i acc v Ga ha, i < n → Ext W G0 h0 Ga ha → Ac i acc Ga → Fi i v Ga → T W prog w A.in1 (binaryOp .Add acc v) Ga ha (fun u G' _ => Ac (i + 1) u G')) :
    ∀ (k i : Nat) (s : Shared) (Gc : Heap) (acc : Value) (c : Nat) (st : Int), (i = 0 ∧ st = 0 ∧ (∃ z t, acc = .int z t) ∨ 0 < i ∧ st = 2) → n - i = k → i ≤ n → GenSt W prog w A.in1 n G0 h0 C I S Fi a g i s Gc → Ac i acc Gc → s.heap.get? S = some (sumObj acc c) → Gc.get? S = none → g < s.gens.size →
      (∀ v s' G', Ext W G0 h0 G' s'.heap → Ac n v G' → (∀ b o, s.heap.get? b = some o → b ≠ C → b ≠ I → b ≠ S → b ∉ W → s'.heap.get? b = some o) → s'.os = s.os → GX g s.gens s'.gens → s'.gens[g]? = some .finished → R (.ok (.ret v)) s') →
      codeAny (model prog w) A (.builtin "sum.loop" ⟨[.ref a, .ref S, rawInt st, rawInt 0], []⟩) R s := by
  intro k
  induction k with
  | zero =>
    intro i s Gc acc c st hst hk hi hg hA hS oS hgs hR
    have hin : i = n := by omega
    subst hin
    refine codeAny_builtin F.entry_sum_loop ?_
    rw [Around.under_plainId F.plain_sum_loop _]
    show wpAny _ A.in1 (seqItems? (.ref S) >>= _) _ _ s
    refine wpAny_bind (wpAny_seqItems hS rfl ?_)
    show wpAny _ A.in1 (tryCatch (pyNext (.ref a)) _ >>= _) _ _ s
    have hl : s.heap.NoLimit := hl0.keeps fun b o q => hg.ext.into _ _ (hg.ext.sub _ _ q)
    refine wpAny_bind (wpAny_tryCatch (hg.done hh hroom hl dI hSW oS ⟨_, hS⟩ fun s' e' kp os' gx fin => ?_))
    have fin2 := hR acc s' Gc e' hA (fun b o q h1 h2 h3 h4 => kp b o q h2) os' gx fin
    rcases hst with ⟨_, rfl, z, t, rfl⟩ | ⟨h, rfl⟩
    · exact wpAny_pure fin2
    · obtain ⟨x, rfl⟩ := refA _ _ _ h hA
      exact wpAny_pure fin2
  | succ k ih =>
    intro i s Gc acc c st hst hk hi hg hA hS oS hgs hR
    have hlt : i < n := by omega
    refine codeAny_builtin F.entry_sum_loop ?_
    rw [Around.under_plainId F.plain_sum_loop _]
    show wpAny _ A.in1 (seqItems? (.ref S) >>= _) _ _ s
    refine wpAny_bind (wpAny_seqItems hS rfl ?_)
    show wpAny _ A.in1 (tryCatch (pyNext (.ref a)) _ >>= _) _ _ s
    have hl : s.heap.NoLimit := hl0.keeps fun b o q => hg.ext.into _ _ (hg.ext.sub _ _ q)
    refine wpAny_bind (wpAny_tryCatch (hg.item hh hroom hl hlt ha oS ⟨_, hS⟩ fun v s1 G1 hF oS1 hg1 kp1 os1 gx1 => ?_))
    have hS1 := kp1 S _ hS hSC hSI hSW
    have wOff : ∀ b ∈ W, Gc.get? b = none := fun b hb => by
      cases q : Gc.get? b with
      | none => rfl
      | some o =>
        obtain ⟨x1, o', x2⟩ := hw b hb
        rcases hg.ext.fresh b o q with z | z
        · obtain ⟨_, z⟩ := z; rw [x1] at z; cases z
        · rw [show h0.get? b = none from z] at x2; cases x2
    have eC : Ext W G0 h0 Gc s1.heap := ⟨hg1.ext.keep, hg1.ext.live, hg.ext.sub, hg.ext.fresh, fun b o q => kp1 b o (hg.ext.into b o q) (fun z => by rw [z, hg.oC] at q; cases q) (fun z => by rw [z, hg.oI] at q; cases q) fun z => by rw [wOff b z] at q; cases q⟩
    have eU := hg1.ext.uni eC
    have uC : ∀ b o, Gc.get? b = some o → (uni G1 Gc).get? b = some o := uni_r hg1.ext.into eC.into
    obtain ⟨x, rfl⟩ := ref _ _ _ hF
    have tt := add i acc (.ref x) (uni G1 Gc) s1.heap hlt eU (mA _ _ _ _ uC hA) (mF _ _ _ _ uni_l hF)
    have key : ∀ (E : Value → Shared → Prop), wpAny (model prog w) A.in1 (binaryOp .Add acc (.ref x)) (fun u s2 => ∃ G2, Ext W (uni G1 Gc) s1.heap G2 s2.heap ∧ GO s1 s2 ∧ Ac (i + 1) u G2) E s1 := fun E => wpAny_mono (tt s1 rfl eU.into) (fun _ _ z => z) fun _ _ z => z.elim
    have notW : ∀ b, Dead h0 b → b ∉ W := fun b z hb => by
      obtain ⟨_, o', x2⟩ := hw b hb
      rw [show h0.get? b = none from z] at x2; cases x2
    have step : ∀ (u : Value) (s2 : Shared) (G2 : Heap) (c' : Nat) (H3 : Heap) (tk : Tok), Ext W (uni G1 Gc) s1.heap G2 s2.heap → GO s1 s2 → Ac (i + 1) u G2 → Heap.SameBut S s2.heap H3 → H3.get? S = some (sumObj u c') →
        codeAny (model prog w) A (.builtin "sum.loop" ⟨[.ref a, .ref S, rawInt 2, rawInt 0], []⟩) R { s2 with heap := H3, toks := tk } := fun u s2 G2 c' H3 tk e2 g2 hA2 sb h3 => by
      have oS2 : G2.get? S = none := off_ext e2 (uni_none oS1 oS) ⟨_, hS1⟩
      have eT := (eU.trans e2).updD (fun b o hb q => sb.extBut b o hb q) dS oS2
      have gq : ({ s2 with heap := H3, toks := tk } : Shared).gens[g]? = s1.gens[g]? := by
        obtain ⟨kk, e⟩ := g2.gens
        show s2.gens[g]? = _
        rw [e, Array.getElem?_append_left (Nat.lt_of_lt_of_le hgs gx1.1)]
      have gx2 : GX g s1.gens s2.gens := GX.go g2
      refine ih (i + 1) { s2 with heap := H3, toks := tk } G2 u c' 2 (.inr ⟨by omega, rfl⟩) (by omega) hlt (hg1.move eT (fun b o q => e2.sub _ _ (uni_l _ _ q)) (off_ext e2 (uni_none hg1.oC hg.oC) hg1.lC) (off_ext e2 (uni_none hg1.oI hg.oI) hg1.lI)
        (fun b hb o q => sb.extBut b o (fun z => by rcases hb with rfl | rfl | rfl; exact hSC z.symm; exact hSI z.symm; exact hSa z.symm) (e2.keep b o (by rcases hb with rfl | rfl | rfl; exact notW _ dC; exact notW _ dI; exact ha.2.2) q)) gq)
        hA2 h3 oS2 (Nat.lt_of_lt_of_le hgs (gx1.trans hgs gx2).1) fun v s' G' e hv kp os gx fin => ?_
      exact hR v s' G' e hv (fun b o q h1 h2 h3 h4 => kp b o (sb.extBut b o h3 (e2.keep b o h4 (kp1 b o q h1 h2 h4))) h1 h2 h3 h4) (os.trans (g2.os.trans os1)) ((gx1.trans hgs gx2).trans hgs gx) fin
    rcases hst with ⟨rfl, rfl, z, t, rfl⟩ | ⟨h, rfl⟩
    · show wpAny _ A.in1 (rule _ >>= _) _ _ _
      refine wpAny_bind (wpAny_rule ?_)
      refine wpAny_bind (wpAny_attempt (wpAny_holding (wpAny_mono (key _) (fun u s2 hu => ?_) fun _ _ z => z)))
      obtain ⟨G2, e2, g2, hA2⟩ := hu
      have hS2 := e2.keep S _ hSW hS1
      obtain ⟨x', rfl⟩ := refA _ _ _ (Nat.succ_pos 0) hA2
      show wpAny _ A.in1 (updateSeq S (fun _ => #[.ref x']) >>= _) _ _ _
      refine wpAny_bind (wpAny_updateSeq hS2 rfl ?_)
      have hS₂ := Heap.get?_update_self (Obj.mapSeq fun _ => #[Value.ref x']) hS2 rfl
      refine wpAny_bind (wpAny_letGo ?_)
      refine wpAny_bind (wpAny_updateSeq hS₂ rfl (wpAny_pure ⟨plainId_quiet F.plain_sum_loop _, step _ s2 G2 c _ s2.toks e2 g2 hA2 ?_ ?_⟩))
      · exact (Heap.SameBut.update ..).trans (Heap.SameBut.update ..)
      · exact Heap.get?_update_self (Obj.mapSeq fun _ => #[Value.ref x']) hS₂ rfl
    · obtain ⟨y, rfl⟩ := refA _ _ _ h hA
      show wpAny _ A.in1 ((holding [Value.ref x] (binaryOp .Add (.ref y) (.ref x))).attempt >>= _) _ _ _
      refine wpAny_bind (wpAny_attempt (wpAny_holding (wpAny_mono (key _) (fun u s2 hu => ?_) fun _ _ z => z)))
      obtain ⟨G2, e2, g2, hA2⟩ := hu
      have hS2 := e2.keep S _ hSW hS1
      obtain ⟨x', rfl⟩ := refA _ _ _ (Nat.succ_pos i) hA2
      show wpAny _ A.in1 (updateSeq S (fun _ => #[.ref x']) >>= _) _ _ _
      refine wpAny_bind (wpAny_updateSeq hS2 rfl ?_)
      have hS₂ := Heap.get?_update_self (Obj.mapSeq fun _ => #[Value.ref x']) hS2 rfl
      refine wpAny_bind (wpAny_letGo ?_)
      refine wpAny_bind (wpAny_updateSeq hS₂ rfl (wpAny_pure ⟨plainId_quiet F.plain_sum_loop _, step _ s2 G2 c _ s2.toks e2 g2 hA2 ?_ ?_⟩))
      · exact (Heap.SameBut.update ..).trans (Heap.SameBut.update ..)
      · exact Heap.get?_update_self (Obj.mapSeq fun _ => #[Value.ref x']) hS₂ rfl
end
end
section
section
variable {W : List Addr} {prog : Program} {w : World} {A : Around} {G0 h0 G1 : Heap} {cenv : Env} {lc' : List (Str × Value)} {x : Str} {C I S : Addr} {n : Nat}
/-- the first wake of a generator expression -/
theorem seg_start {elt iter : Expr} {px pos : Pos} {scope : Scope} {fp : List Addr} {Pv : Nat → Value → Prop} {Sw : Nat → Heap → Prop} {Fi : Nat → Value → Heap → Prop}
    (hh : A.handled = none) (W₀ : ∀ A' : Around, A'.handled = none → Walks prog w A' I fp [I] n Pv Sw) (hfp : ∀ b ∈ fp, b ≠ I → ∃ o, G1.get? b = some o) (hlv : ∀ i h, Sw i h → ∃ o, h.get? I = some o)
    (hx : cenv.kindOf x = some .local) (hk : cenv.scope.kind = .function) (hco : cenv.scope.isCoroutine = false) (hCI : C ≠ I) (hC : cenv.locals = C) (dC : Dead h0 C) (dI : Dead h0 I) (hCW : C ∉ W) (hIW : I ∉ W)
    (cl : ∀ n c, cenv.cells.lookup n = some c → (∃ o, h0.get? c = some o) ∧ c ∉ W ∧ G0.get? c = none)
    (elt_ : ∀ (A' : Around) i v Ga ha, A'.handled = none → i < n → Pv i v → Ext W G0 h0 Ga ha → (∀ b o, G1.get? b = some o → Ga.get? b = some o) → Fm w cenv Ga ha [(x, v)] lc' → OffW W cenv →
      (A' = A.over (.compLoop (.GeneratorExp elt [⟨.Name x px, iter, [], 0⟩] scope pos) 0 (.ref I) .none cenv) []) → T W prog w A' (eval elt cenv) Ga ha (fun u Gb hb => Fi i u Gb))
    (s : Shared) (G' : Heap) (hst : Sw 0 s.heap) (F : Fm w cenv G' s.heap [] lc') (e : Ext W G0 h0 G' s.heap) (sub : ∀ b o, G1.get? b = some o → G'.get? b = some o) (oI : G'.get? I = none) (oS : G'.get? S = none) (lS : ∃ o, s.heap.get? S = some o) :
    Seg (model prog w) A (gEnd I) (gp W n G0 h0 C I S Fi) n s (.compStart (.GeneratorExp elt [⟨.Name x px, iter, [], 0⟩] scope pos) 0 (.ref I) .none cenv)
      ((model prog w).den (.compStart (.GeneratorExp elt [⟨.Name x px, iter, [], 0⟩] scope pos) 0 (.ref I) .none cenv)) [] s := by
  have hh' : (A.over (.compStart (.GeneratorExp elt [⟨.Name x px, iter, [], 0⟩] scope pos) 0 (.ref I) .none cenv) []).handled = none := hh
  have loop := seg_loop (iter := iter) (px := px) (scope := scope) (pos := pos) (S := S) hh W₀ hfp hlv hx hk hco hCI hC dC dI hCW hIW cl (fun A' i v Ga ha a1 _ a3 a4 a5 a6 a7 a8 a9 => elt_ A' i v Ga ha a1 a3 a4 a5 a6 a7 a8 a9) n 0 s s G' (Nat.sub_zero _) (Nat.zero_le _) hst F e sub oI oS lS ⟨rfl, rfl, rfl⟩
  rw [Nat.sub_zero] at loop
  show Seg _ A _ _ _ s _ ((compStart (.GeneratorExp elt [⟨.Name x px, iter, [], 0⟩] scope pos) 0 (.ref I) .none cenv).onRaise (leaving cenv)) [] s
  unfold compStart
  rw [Sem.onRaise_eq_wrap]
  show Seg _ A _ _ _ s _ ((ask >>= _).wrap _ _ _ _) [] s
  refine seg_bind_wrap (wpAny_askSetting ?_)
  split
  · exact seg_again rfl loop
  · first
      | exact seg_bind_wrap (wpAny_rule (seg_bind_wrap (wpAny_standAt (seg_bind_wrap ((W₀ _ hh').self 0 s _ _ hst (seg_again rfl loop))))))
      | (refine seg_bind_wrap (wpAny_rule ?_); show Seg _ A _ _ _ s _ ((standAt iter.pos >>= _).wrap _ _ _ _) [] s; exact seg_bind_wrap (wpAny_standAt (seg_bind_wrap ((W₀ _ hh').self 0 s _ _ hst (seg_again rfl loop)))))
/-- a generator that stands unstarted -/
theorem GenSt.fresh {elt iter : Expr} {px pos : Pos} {scope : Scope} {fp : List Addr} {Pv : Nat → Value → Prop} {Sw : Nat → Heap → Prop} {Fi : Nat → Value → Heap → Prop} {a g : Addr} {s : Shared}
    (hh : A.handled = none) (W₀ : ∀ A' : Around, A'.handled = none → Walks prog w A' I fp [I] n Pv Sw) (hfp : ∀ b ∈ fp, b ≠ I → ∃ o, G1.get? b = some o) (hlv : ∀ i h, Sw i h → ∃ o, h.get? I = some o)
    (hx : cenv.kindOf x = some .local) (hk : cenv.scope.kind = .function) (hco : cenv.scope.isCoroutine = false) (hCI : C ≠ I) (hC : cenv.locals = C) (dC : Dead h0 C) (dI : Dead h0 I) (hCW : C ∉ W) (hIW : I ∉ W)
    (cl : ∀ n c, cenv.cells.lookup n = some c → (∃ o, h0.get? c = some o) ∧ c ∉ W ∧ G0.get? c = none)
    (elt_ : ∀ (A' : Around) i v Ga ha, A'.handled = none → i < n → Pv i v → Ext W G0 h0 Ga ha → (∀ b o, G1.get? b = some o → Ga.get? b = some o) → Fm w cenv Ga ha [(x, v)] lc' → OffW W cenv →
      (A' = A.in1.over (.compLoop (.GeneratorExp elt [⟨.Name x px, iter, [], 0⟩] scope pos) 0 (.ref I) .none cenv) []) → T W prog w A' (eval elt cenv) Ga ha (fun u Gb hb => Fi i u Gb))
    (hst : Sw 0 s.heap) (F : Fm w cenv G1 s.heap [] lc') (e : Ext W G0 h0 G1 s.heap) (oI : G1.get? I = none) (hg : s.heap.IsGen a g)
    (hgs : s.gens[g]? = some (.fresh (.compStart (.GeneratorExp elt [⟨.Name x px, iter, [], 0⟩] scope pos) 0 (.ref I) .none cenv))) :
    GenSt W prog w A n G0 h0 C I S Fi a g 0 s G1 := by
  refine ⟨hg, e, hC ▸ F.offL, oI, hC ▸ F.live (.inl rfl), hlv _ _ hst, _, hgs, fun s'' G'' e'' sub'' oC'' oI'' oS'' lS'' kk => ⟨rfl, ?_⟩⟩
  have F'' : Fm w cenv G'' s''.heap [] lc' := F.move e e'' sub'' (hC ▸ oC'') (fun o q => kk _ (.inl hC) o q) (fun nn c hc => ⟨(cl nn c hc).1, (cl nn c hc).2.1⟩) (fun nn c hc => off_ext (W := W) e'' (cl nn c hc).2.2 (cl nn c hc).1)
  have hst'' : Sw 0 s''.heap := by
    refine (W₀ A hh).frame _ _ _ hst fun b hb o' q' => ?_
    by_cases hbI : b = I
    · exact kk b (.inr hbI) o' q'
    · obtain ⟨o'', z⟩ := hfp b hb hbI
      have z1 := e''.into _ _ (sub'' _ _ z)
      have z2 := e.into _ _ z
      rw [z2] at q'; cases q'; exact z1
  rw [Nat.sub_zero]
  exact seg_start (A := A.in1) hh W₀ hfp hlv hx hk hco hCI hC dC dI hCW hIW cl elt_ s'' G'' hst'' F'' e'' sub'' oI'' oS'' lS''
end
end
section
/-- what a frame in w of a generator expression is told: its free names -/
def gEnv (scope : Scope) (env : Env) (C : Addr) (code : Value) : Env := genEnv scope (closOf env.cells scope.names []) C code builtinsNs env
def gOk (scope : Scope) (env : Env) : Bool := onceAll scope.names && freeOk env.cells scope.names && scope.kind == .function && !scope.isCoroutine && scope.names.all (fun p => p.2 != .cell) && scope.names.lookup (".0" : Str) == some NameKind.local
section
variable {W : List Addr} {prog : Program} {w : World} {A : Around} {G h : Heap} {env : Env} {l lc lc' : List (Str × Value)} {x : Str}
theorem codeHd_codes {h : Heap} {c P : Addr} {ps : Array Value} (x : CodeHd h c P) (t : h.get? P = some (tabObj ps)) (tr : TriplesOk ps.toList) : h.IsCode c P ps ∧ h.TableAt c P ps := by
  obtain ⟨o, vs, file, tf, flags, tg, inF, text, tt, e1, e2, e3, e4, e5, e6, e7, e8, e9, e10⟩ := x
  exact ⟨⟨o, vs, file, tf, flags, tg, inF, text, tt, _, e1, e3, e5, e6, e7, e8, e9, t, rfl, tr, e10⟩, ⟨o, vs, e1, e2, e3, e4⟩, t⟩
theorem gen_make {elt iter : Expr} {px pos : Pos} {scope : Scope} {c P : Addr} {Q : Value → Shared → Prop} {A2 : Around} (hA2 : A2.handled = none) (hA : A.handled = none) (hroom : A.depth < recursionLimit) (F : Fm w env G h l lc) (hOW : OffW W env) (ok : gOk scope env = true)
    (hcode : env.code = .ref c) (hd : CodeHd G c P) (hP : P ∈ W) (hW : ∀ a ∈ W, ∃ o, h.get? a = some o) (tb : Tb h) (hPT : P ∈ TW) (hPG : G.get? P = none) (hx : scope.names.lookup x = some .local) (hlc : ∀ p ∈ lc', p ∈ lc ∧ (p.1, NameKind.free) ∈ scope.names)
    (hs : ∀ x, genFold iter env x = pure x) {s : Shared} (hh : s.heap = h) (hi : In G h)
    (y : T [] prog w A (eval iter env) G h (fun xv G1 h1 => ∃ n Pv Fi, Iter prog w G1 xv n Pv ∧
      (∀ (A' : Around) i v Ga ha C code I, A'.handled = none → i < n → Pv i v → (∀ b o, G1.get? b = some o → Ga.get? b = some o) → Fm w (gEnv scope env C code) Ga ha [(x, v)] lc' →
        A' = A2.in1.over (.compLoop (.GeneratorExp elt [⟨.Name x px, iter, [], 0⟩] scope pos) 0 (.ref I) .none (gEnv scope env C code)) [] → T [] prog w A' (eval elt (gEnv scope env C code)) Ga ha (fun u Gb hb => Fi i u Gb)) ∧
      ∀ (s1 s' : Shared) hB a C I gx, s1.heap = h1 → GO s s1 → Ext [] G h G1 h1 → Ext W G1 h1 G1 hB → Tb hB → (∀ S, GenSt [] prog w A2 n G1 hB C I S Fi a s1.gens.size 0 s' G1) → Dead hB a → Dead hB C → Dead hB I → a ≠ C ∧ a ≠ I → s'.gens = s1.gens.push gx → s'.os = s1.os → Ext [] G1 hB G1 s'.heap → Q (.ref a) s')) :
    wpAny (model prog w) A (eval (.GeneratorExp elt [⟨.Name x px, iter, [], 0⟩] scope pos) env) Q (fun _ _ => False) s := by
  simp only [gOk, Bool.and_eq_true] at ok
  obtain ⟨⟨⟨⟨⟨on, okf⟩, okk⟩, okc⟩, okcell⟩, ok0⟩ := ok
  have okk : scope.kind = .function := compFrame.beq_kind okk
  have hco : scope.isCoroutine = false := by simpa using okc
  have hcell : ∀ y ∈ scope.names, y.2 ≠ .cell := fun p hp => by have := List.all_eq_true.mp okcell p hp; simpa using this
  have h0 : scope.names.lookup (".0" : Str) = some NameKind.local := by simpa using ok0
  refine wpAny_GeneratorExp_make hco (closureFor_eq okf) hcell h0 okk hroom (y.run hh hi fun xv s1 G1 e1 g1 z => ?_) hs
  obtain ⟨n, Pv, Fi, it, turn, fin⟩ := z
  refine it A s1 _ _ hA e1.into fun I o fp Sw hI hIo hwk hSw hfp hlv => ?_
  have F1 : Fm w env G1 s1.heap l lc := F.ext (W := []) e1
  obtain ⟨mg, mb, tt⟩ := F1.top.t
  obtain ⟨mg', bm, ob, bb⟩ := F1.top.b
  have k1 : ∀ b o', s1.heap.get? b = some o' → (s1.heap.push o).get? b = some o' := fun b o' e => Heap.get?_push_of_some _ e
  refine ⟨(tt.nolimit.keeps e1.into).keeps k1, ?_⟩
  obtain ⟨ps, htab, htr⟩ := (tb.ext e1) P hPT
  have hd1 : CodeHd (s1.heap.push o) c P := hd.keeps fun b o' q => k1 _ _ (e1.into _ _ (e1.sub _ _ q))
  obtain ⟨hc1, hc2⟩ := codeHd_codes hd1 (k1 _ _ htab) htr
  refine genexprCode_any hcode hc1 hc2 fun code h3 tk3 ps3 x3 hc3 ht3 => ?_
  have keepP : ∀ b o', b ≠ P → s1.heap.get? b = some o' → h3.get? b = some o' := fun b o' hb q => x3 b o' hb (k1 _ _ q)
  have PG : ∀ b o', G1.get? b = some o' → b ≠ P := fun b o' q z => by
    rw [z, off_ext e1 hPG (hW P hP)] at q; cases q
  have i3 : In G1 h3 := fun b o' q => keepP b o' (PG b o' q) (e1.into b o' q)
  have bb3 := bb.keeps i3
  rw [F.glob]
  refine wpAny_builtinsFor bb3.ns bb3.name bb3.ne bb3.obj bb3.cls bb3.dict bb3.data ?_
  intro h' hn' hs'
  dsimp only at hn' hs' ⊢
  generalize hC : h3.objs.size = C at hn' hs' ⊢
  generalize ha : h'.objs.size = a
  generalize hg : ({ cls := .type "generator", data := .fields #[.int s1.gens.size 0, .str "<genexpr>" (tk3 + 1), .str (env.qual ++ "<genexpr>") (tk3 + 1 + 1)] } : Obj) = go
  have lt3 : ∀ b o', h3.get? b = some o' → b ≠ C := fun b o' q z => by have := Heap.lt_size q; rw [hC, z] at this; exact Nat.lt_irrefl _ this
  have k35 : ∀ b o', h3.get? b = some o' → (h'.push go).get? b = some o' := fun b o' q => Heap.get?_push_of_some _ (hs'.extBut b o' (lt3 b o' q) (Heap.get?_push_of_some _ q))
  have dC1 : Dead s1.heap C := by
    cases q : s1.heap.get? C with
    | none => exact q
    | some o' =>
      exfalso
      by_cases z : C = P
      · obtain ⟨o2, q2⟩ : ∃ o2, h3.get? P = some o2 := ⟨_, ht3.2⟩
        exact lt3 _ _ q2 z.symm
      · exact lt3 _ _ (keepP C o' z q) rfl
  have liveC : ∃ o', h'.get? C = some o' := ns_live hn'
  have da1 : Dead s1.heap a := by
    cases q : s1.heap.get? a with
    | none => exact q
    | some o' =>
      exfalso
      by_cases z : a = P
      · have q2 := hs'.extBut P _ (lt3 _ _ ht3.2) (Heap.get?_push_of_some _ ht3.2)
        have := Heap.lt_size q2; rw [ha, z] at this; exact Nat.lt_irrefl _ this
      · have q1 := keepP a o' z q
        have q2 := hs'.extBut a _ (lt3 _ _ q1) (Heap.get?_push_of_some _ q1)
        have := Heap.lt_size q2; rw [ha] at this; exact Nat.lt_irrefl _ this
  have IP : I ≠ P := fun z => by
    obtain ⟨o2, q2⟩ := hW P hP; obtain ⟨o3, q3⟩ := e1.live P o2 q2
    rw [← z, show s1.heap.get? I = none from hI] at q3; cases q3
  obtain ⟨oI, hoI⟩ : ∃ oI, h3.get? I = some oI := ⟨_, x3 I _ IP hIo⟩
  have lt5 : ∀ b o', h3.get? b = some o' → b ≠ a := fun b o' q z => by
    have := Heap.lt_size (hs'.extBut b o' (lt3 b o' q) (Heap.get?_push_of_some _ q)); rw [ha, z] at this; exact Nat.lt_irrefl _ this
  have aC : a ≠ C := fun z => by
    obtain ⟨o', q⟩ := liveC
    have := Heap.lt_size q; rw [ha, z] at this; exact Nat.lt_irrefl _ this
  have W1 : ∀ b ∈ W, ∃ o', s1.heap.get? b = some o' := fun b hb => let ⟨o', q⟩ := hW b hb; e1.live b o' q
  have notW : ∀ b, Dead s1.heap b → b ∉ W := fun b d m => by obtain ⟨o', q⟩ := W1 b m; rw [show s1.heap.get? b = none from d] at q; cases q
  have offG : ∀ b, Dead s1.heap b → G1.get? b = none := fun b d => by
    cases q : G1.get? b with
    | none => rfl
    | some o' => have := e1.into _ _ q; rw [show s1.heap.get? b = none from d] at this; cases this
  generalize hBe : s1.heap.update P (fun _ => tabObj ps3) = hB
  have BP : hB.get? P = some (tabObj ps3) := hBe ▸ Heap.get?_update_self _ htab rfl
  have Bo : ∀ b, b ≠ P → hB.get? b = s1.heap.get? b := fun b hb => hBe ▸ Heap.get?_update_other _ _ (Ne.symm hb)
  have exB : Ext W G1 s1.heap G1 hB := ⟨fun b o' hb q => (Bo b (fun z => hb (z ▸ hP))).trans q, fun b o' q => by
      by_cases z : b = P
      · exact ⟨_, z ▸ BP⟩
      · exact ⟨o', (Bo b z).trans q⟩, fun _ _ q => q, fun _ o' q => .inl ⟨o', q⟩, fun b o' q => (Bo b (PG b o' q)).trans (e1.into b o' q)⟩
  have dB : ∀ b, Dead s1.heap b → Dead hB b := fun b d => (Bo b (fun z => by rw [z] at d; have := htab.symm.trans (show s1.heap.get? P = none from d); cases this)).trans d
  have kB : ∀ b o', hB.get? b = some o' → (h'.push go).get? b = some o' := fun b o' q => by
    by_cases z : b = P
    · rw [z, BP] at q; cases q; rw [z]; exact k35 _ _ ht3.2
    · exact k35 _ _ (keepP b o' z ((Bo b z).symm.trans q))
  have ex5 : Ext [] G1 hB G1 (h'.push go) := ⟨fun b o' _ q => kB b o' q, fun b o' q => ⟨o', kB b o' q⟩, fun _ _ q => q, fun _ o' q => .inl ⟨o', q⟩, fun b o' q => k35 _ _ (i3 b o' q)⟩
  have cls : ∀ nn cc, (gEnv scope env C code).cells.lookup nn = some cc → env.cells.lookup nn = some cc ∧ (nn, NameKind.free) ∈ scope.names := fun nn cc hc => by
    rcases closOf_mem okf (mem_of_lookup hc) with m | ⟨m1, m2⟩
    · cases m
    · exact ⟨m2, m1⟩
  have offW : OffW W (gEnv scope env C code) := fun b hb => ⟨fun z => notW C dC1 ((show b = C from z) ▸ hb), fun nn cc hc => (hOW b hb).2 nn cc (cls nn cc hc).1⟩
  have cellk : ∀ nn cc v, env.cells.lookup nn = some cc → s1.heap.IsCell cc v → (h'.push go).IsCell cc v := fun nn cc v hc q => isCell_at q fun o' q' => k35 _ _ (keepP cc o' (fun z => (hOW P hP).2 nn cc hc z.symm) q')
  have lkp : ∀ p ∈ lc', ∀ cc, env.cells.lookup p.1 = some cc → (gEnv scope env C code).cells.lookup p.1 = some cc := fun p hp cc hc =>
    lookup_of_mem (closOf_has hc (.inl (hlc p hp).2)) fun u hm => by
      rcases closOf_mem okf hm with m | ⟨_, m2⟩
      · cases m
      · have m2 : env.cells.lookup p.1 = some u := m2
        rw [hc] at m2; exact (Option.some.inj m2).symm
  have F5 : Fm w (gEnv scope env C code) G1 (h'.push go) [] lc' := ⟨F1.top, okk, F.glob, rfl, ⟨_, hn'.push _, fun p hp => by cases hp⟩, fun nn cc hc => let ⟨v, q⟩ := F1.cell nn cc (cls nn cc hc).1; ⟨v, cellk nn cc v (cls nn cc hc).1 q⟩,
    fun p hp => let ⟨cc, hc, q⟩ := F1.cellv p (hlc p hp).1; ⟨cc, lkp p hp cc hc, cellk _ cc _ hc q⟩, closOf_apart F.apart on okf List.Pairwise.nil (fun p hp => by cases hp), offG C dC1, fun nn cc hc => F1.offC nn cc (cls nn cc hc).1, ex5.into,
    let ⟨H, b1, b2, b3⟩ := F1.base; ⟨H, by
      refine Nat.le_trans b1 (Nat.le_of_lt ?_)
      obtain ⟨m, q, _⟩ := F1.ns
      obtain ⟨oL, qL⟩ := ns_live q
      have q3 := keepP _ _ (fun z => (hOW P hP).1 z.symm) qL
      have := Heap.lt_size q3
      rw [hC] at this; exact this, b2, b3⟩⟩
  have ag : h'.get? a = none := dead_of (Nat.le_of_eq ha)
  have aI : a ≠ I := fun z => lt5 _ _ hoI z.symm
  have CI : C ≠ I := fun z => lt3 _ _ hoI z.symm
  have hgo : (h'.push go).IsGen a s1.gens.size := ⟨go, _, _, by rw [← ha]; exact Heap.get?_push_size _ (by rw [← hg]; rfl), by rw [← hg], by rw [← hg], by rw [← hg]⟩
  have tb5 : Tb hB := fun P' hP' => by
    by_cases z : P' = P
    · obtain ⟨_, _, _, _, _, _, _, _, _, _, _, _, _, _, _, _, _, _, _, tr, _⟩ := hc3
      subst z; exact ⟨ps3, BP, tr⟩
    · obtain ⟨ps', q, r⟩ := tb.ext e1 P' hP'
      exact ⟨ps', (Bo _ z).trans q, r⟩
  have st5 : Sw 0 (h'.push go) := (hwk A hA).frame _ _ _ hSw fun b hb o' q => by
    by_cases z : b = P
    · obtain ⟨o'', z2⟩ := hfp b hb (fun z3 => IP (z3.symm.trans z))
      exact absurd z (PG _ _ z2)
    · exact k35 _ _ (x3 b o' z q)
  refine fin s1 _ hB a C I _ rfl g1 e1 exB tb5 (fun S => GenSt.fresh (cenv := gEnv scope env C code) (lc' := lc') (G1 := G1) hA2 hwk hfp hlv hx okk hco CI rfl (dB _ dC1) (dB _ hI) (by simp) (by simp) (fun nn cc hc => ⟨?_, by simp, F1.offC nn cc (cls nn cc hc).1⟩)
    (fun A' i v Ga ha' hA' hi' hv' _ sub' F' o' q' => turn A' i v Ga ha' C code I hA' hi' hv' sub' F' q') st5 F5 ex5 (offG I hI) hgo (Array.getElem?_push_size ..)) (dB _ da1) (dB _ dC1) (dB _ hI) ⟨aC, aI⟩ rfl rfl ex5
  exact let ⟨v, q⟩ := F1.cell nn cc (cls nn cc hc).1; let ⟨o', q'⟩ := cell_live q; exB.live cc o' q'
end
end
section
section
variable {W : List Addr} {prog : Program} {w : World} {A : Around} {G h : Heap} {env : Env} {l lc lc' : List (Str × Value)} {x : Str} {E : Value → Shared → Prop}
theorem Rm.gen {d : Nat} {elt : Expr} {gs : List Comprehension} {scope : Scope} {pos : Pos} {I : Addr} {cenv : Env} (x : Rm A (d + 1)) : Rm (A.over (.compLoop (.GeneratorExp elt gs scope pos) 0 (.ref I) .none cenv) []) d :=
  ⟨x.hd, by have := x.depth; show A.depth + 0 + 1 + 2 * d ≤ 900; omega, by have := x.units; show A.units + 0 + 3 + 20 * d ≤ 9000; omega⟩
/-- sum(g) for a generator that stands unstarted -/
theorem sum_call {G0 h0 Gc : Heap} {C I a g : Addr} {n : Nat} {Fi Ac : Nat → Value → Heap → Prop} {s : Shared} {Q : Value → Shared → Prop} (hh : A.in1.handled = none) (hroom : A.in1.depth < recursionLimit) (hl0 : G0.NoLimit) (i0 : In G0 h0)
    (hw : ∀ b ∈ W, G0.get? b = none ∧ ∃ o, h0.get? b = some o) (ha : a ≠ C ∧ a ≠ I ∧ a ∉ W) (dC : Dead h0 C) (dI : Dead h0 I) (dA : Dead h0 a)
    (mF : ∀ i v G G', (∀ b o, G.get? b = some o → G'.get? b = some o) → Fi i v G → Fi i v G') (mA : ∀ i v G G', (∀ b o, G.get? b = some o → G'.get? b = some o) → Ac i v G → Ac i v G')
    (ref : ∀ i v G, Fi i v G → ∃ x, v = .ref x) (refA : ∀ i v G, 0 < i → Ac i v G → ∃ x, v = .ref x) (z0 : ∀ t G, Ac 0 (.int 0 t) G)
    (add : ∀ i acc v Ga ha, i < n → Ext W G0 h0 Ga ha → Ac i acc Ga → Fi i v Ga → T W prog w A.in1 (binaryOp .Add acc v) Ga ha (fun u G' _ => Ac (i + 1) u G'))
    (hg : ∀ S, Gc.get? S = none → GenSt W prog w A.in1 n G0 h0 C I S Fi a g 0 s Gc) (eG : Ext W G0 h0 Gc s.heap) (hgs : g < s.gens.size)
    (hQ : ∀ v s' G', Ext W G0 h0 G' s'.heap → Ac n v G' → s'.os = s.os → GX g s.gens s'.gens → s'.gens[g]? = some .finished → Q v s') :
    wpAny (model prog w) A (call (.builtin "sum") [.ref a]) Q E s := by
  refine call_function_tree F.kind_sum F.plain_sum F.entry_sum (F.args_sum1 _) ?_
  unfold Builtin.«sum»
  simp only [List.length_cons, List.length_nil]
  rw [if_neg (by decide)]
  refine wpAny_bind (wpAny_of_eq (show Builtin.Builtins.bindParams "sum" ["start"] 0 { } = pure [none] from rfl) ?_)
  have dS : Dead s.heap s.heap.objs.size := dead_of (Nat.le_refl _)
  have oS : Gc.get? s.heap.objs.size = none := by
    cases q : Gc.get? s.heap.objs.size with
    | none => rfl
    | some o => have := eG.into _ _ q; rw [show s.heap.get? s.heap.objs.size = none from dS] at this; cases this
  have gg := hg _ oS
  refine wpAny_bind (wpAny_pyIter_gen gg.gen ?_)
  refine wpAny_bind (wpAny_mkInt ?_)
  refine wpAny_bind (wpAny_pure ?_)
  simp only [List.forIn_cons, List.forIn_nil]
  refine wpAny_bind (wpAny_bind (wpAny_bind (wpAny_isInstance (T := "int") (b := false) (typeIs_int _ _ _) PySem.sub_int_str ?_)))
  simp only [Bool.false_eq_true, if_false]
  refine wpAny_pure (wpAny_bind (wpAny_bind (wpAny_isInstance (T := "int") (b := false) (typeIs_int _ _ _) PySem.sub_int_bytes ?_)))
  simp only [Bool.false_eq_true, if_false]
  refine wpAny_pure (wpAny_bind (wpAny_bind (wpAny_isInstance (T := "int") (b := false) (typeIs_int _ _ _) PySem.sub_int_bytearray ?_)))
  simp only [Bool.false_eq_true, if_false]
  refine wpAny_pure (wpAny_pure ?_)
  refine wpAny_bind (wpAny_newObj_type ?_)
  have kp : ∀ b o, s.heap.get? b = some o → (s.heap.push { cls := .type "list", dict := none, data := .seq #[Value.int 0 s.toks], slots := #[] }).get? b = some o := fun b o e => Heap.get?_push_of_some _ e
  have neS : ∀ b, (∃ o, s.heap.get? b = some o) → s.heap.objs.size ≠ b := fun b ⟨o, q⟩ z => by have := Heap.lt_size q; rw [z] at this; exact Nat.lt_irrefl _ this
  have eS : Ext W G0 h0 Gc (s.heap.push { cls := .type "list", dict := none, data := .seq #[Value.int 0 s.toks], slots := #[] }) := ⟨fun b o hb q => kp _ _ (eG.keep b o hb q), fun b o q => let ⟨o', q'⟩ := eG.live b o q; ⟨o', kp _ _ q'⟩, eG.sub, eG.fresh, fun b o q => kp _ _ (eG.into b o q)⟩
  have nW : s.heap.objs.size ∉ W := fun m => by obtain ⟨_, o, q⟩ := hw _ m; rw [show h0.get? s.heap.objs.size = none from eG.dead dS] at q; cases q
  obtain ⟨oA, _, _, hoA, _⟩ := id gg.gen
  refine wpAny_pure ⟨plainId_quiet F.plain_sum_loop _, sum_loop (S := s.heap.objs.size) hh hroom hl0 i0 hw ha (neS _ gg.lC) (neS _ gg.lI) (neS _ ⟨_, hoA⟩) nW dC dI (eG.dead dS) dA mF mA ref refA add n 0 _ Gc (.int 0 s.toks) 0 0 (.inl ⟨rfl, rfl, _, _, rfl⟩) rfl (Nat.zero_le _)
    (gg.move eS (fun _ _ q => q) gg.oC gg.oI (fun b _ o q => kp b o q) rfl) (z0 _ _) (Heap.get?_push_size _ rfl) oS hgs fun v s' G' e hv _ os gx fin => hQ v s' G' e hv os gx fin⟩
end
end
section
section
variable {W : List Addr} {prog : Program} {w : World} {A : Around} {G h : Heap} {env : Env} {l lc lc' : List (Str × Value)} {x : Str}
theorem Tb.extW {G h G' h' : Heap} (t : Tb h) (e : Ext [] G h G' h') : Tb h' := t.ext e
/-- sum(elt for x in iter) -/
theorem T_sumGen {P : Value → Heap → Heap → Prop} {elt iter : Expr} {px p0 pos gpos : Pos} {scope : Scope} {c Pt : Addr} {d : Nat} (hA : Rm A (d + 3)) (F : Fm w env G h l lc) (hOW : OffW TW env) (ok : gOk scope env = true)
    (hcode : env.code = .ref c) (hd : CodeHd G c Pt) (hPT : Pt ∈ TW) (tb : Tb h) (hPG : G.get? Pt = none) (hx : scope.names.lookup x = some .local) (hlc : ∀ p ∈ lc', p ∈ lc ∧ (p.1, NameKind.free) ∈ scope.names)
    (hk : env.kindOf "sum" = some .globalImplicit) (hn : nsIn (KK w) mainGlobals "sum" = some none)
    (y : T [] prog w A (eval iter env) G h (fun xv G1 h1 => ∃ n Pv, ∃ Fi Ac : Nat → Value → Heap → Prop, Iter prog w G1 xv n Pv ∧
      (∀ (A' : Around) i v Ga ha C code, Rm A' d → i < n → Pv i v → (∀ b o, G1.get? b = some o → Ga.get? b = some o) → Fm w (gEnv scope env C code) Ga ha [(x, v)] lc' → T [] prog w A' (eval elt (gEnv scope env C code)) Ga ha (fun u Gb hb => Fi i u Gb)) ∧
      (∀ i v G G', (∀ b o, G.get? b = some o → G'.get? b = some o) → Fi i v G → Fi i v G') ∧ (∀ i v G G', (∀ b o, G.get? b = some o → G'.get? b = some o) → Ac i v G → Ac i v G') ∧
      (∀ i v G, Fi i v G → ∃ x, v = .ref x) ∧ (∀ i v G, 0 < i → Ac i v G → ∃ x, v = .ref x) ∧ (∀ t G, Ac 0 (.int 0 t) G) ∧
      (∀ (A' : Around) i acc v Ga ha, Rm A' d → i < n → (∀ b o, G1.get? b = some o → Ga.get? b = some o) → Fm w env Ga ha l lc → Ac i acc Ga → Fi i v Ga → T [] prog w A' (binaryOp .Add acc v) Ga ha (fun u G' _ => Ac (i + 1) u G')) ∧
      ∀ v G' h', Ext TW G1 h1 G' h' → Tb h' → Ac n v G' → P v G' h'))
    (hs : ∀ x, genFold iter env x = pure x := by intro _; rfl) (hst : starEach [.GeneratorExp elt [⟨.Name x px, iter, [], 0⟩] scope gpos] env = [(false, eval (.GeneratorExp elt [⟨.Name x px, iter, [], 0⟩] scope gpos) env)] := by rfl) :
    T TW prog w A (eval (.Call (.Name "sum" p0) [.GeneratorExp elt [⟨.Name x px, iter, [], 0⟩] scope gpos] [] pos) env) G h P := fun s hh hi => by
  have y0 : T [] prog w A (eval (.Name "sum" p0) env) G h (fun f G1 h1 => f = .builtin "sum" ∧ G1 = G ∧ h1 = h) := T_builtin F hk (by with_unfolding_all rfl) hn (by decide) ⟨rfl, rfl, rfl⟩
  refine PyProof.Rows.Call_Name1 (y0.run hh hi fun f s1 G1 e1 g1 z => ?_) hst
  obtain ⟨rfl, rfl, z3⟩ := z
  unfold callWith
  refine wpAny_bind (wpAny_holding (Calls.evalArgs_plain (Calls.spliced_cons ?_)))
  have hA1 : A.in1.handled = none := hA.hd
  have rm1 : Rm A.in1 (d + 2) := hA.in1
  have rm2 : Rm A.in1.in1 (d + 1) := rm1.in1
  refine gen_make (A2 := A.in1) (W := TW) (lc' := lc') hA1 hA.hd hA.room F hOW ok hcode hd hPT (fun a m => let ⟨ps, q, _⟩ := tb a m; ⟨_, q⟩) tb hPT hPG hx hlc hs z3 hi (y.mono fun xv G1 h1 _ yy => ?_)
  obtain ⟨n, Pv, Fi, Ac, it, turn, mF, mA, rf, rfA, z0, add, fin⟩ := yy
  refine ⟨n, Pv, Fi, it, fun A' i v Ga ha C code I hA' hi' hv sub F' eA => turn A' i v Ga ha C code (eA ▸ Rm.gen rm2) hi' hv sub F', ?_⟩
  intro s2 s3 hB a C I gx e2 g2 ex2 exB tbB gst da dC dI hne hgens hos ex3
  refine Calls.spliced_nil (wpAny_bind (wpAny_standAt ?_))
  refine wpAny_bind ((Looks.of_pure (M := model prog w) (h := s3.heap) (rfl : keeperOf (.builtin "sum") = pure .machine)).here ?_)
  have tail : ∀ {t : Sem Value} {Q : Value → Shared → Prop} {E : Value → Shared → Prop}, wpAny (model prog w) A t Q E s3 → wpAny (model prog w) A (t >>= fun r => holding [r] point >>= fun _ => pure r) Q E s3 :=
    fun ht => wpAny_bind (wpAny_mono ht (fun r s₂ hr => wpAny_bind (wpAny_holding (wpAny_point (wpAny_pure hr)))) fun _ _ x => x)
  dsimp only
  refine tail ?_
  have F1 : TopG w G1 := F.top.keeps ex2.sub
  obtain ⟨mg, mb, tt⟩ := F1.t
  have hgs : s3.gens = s2.gens.push gx := hgens
  refine sum_call (W := []) (Ac := Ac) (n := n) (Fi := Fi) (g := s2.gens.size) (C := C) (I := I) hA1 rm1.room tt.nolimit exB.into (by simp) ⟨hne.1, hne.2, by simp⟩ dC dI da mF mA rf rfA z0 (fun i acc v Ga ha hi' e hac hfi => add _ i acc v Ga ha (rm1.mono (by omega)) hi' e.sub (((F.ext (W := []) ex2).ext exB hOW).ext e) hac hfi) (fun S _ => gst S) ex3 (by rw [hgs]; simp) fun v s4 G4 e4 hv os4 gx4 fin4 => ?_
  refine ⟨G4, ex2.wk.trans (exB.trans e4.wk), g1.trans (g2.trans (GO.of_gx (x := gx) (os4.trans hos) (hgs ▸ gx4) fin4)), fin v G4 s4.heap (exB.trans e4.wk) (tbB.ext e4) hv⟩
end
end
section
def Yes (_ : Nat) (v : Value) (_ : Heap) : Prop := v = .bool true
section
variable {W : List Addr} {prog : Program} {w : World} {A : Around} {G0 h0 : Heap} {C I a : Addr} {g n : Nat} {R : Result → Shared → Prop} {E : Value → Shared → Prop}
theorem all_loop (hh : A.in1.handled = none) (hroom : A.in1.depth < recursionLimit) (hl0 : G0.NoLimit) (hIW : I ∉ W) (ha : a ≠ C ∧ a ≠ I ∧ a ∉ W) (dI : Dead h0 I) :
    ∀ (k i : Nat) (s : Shared) (Gc : Heap), n - i = k → i ≤ n → GenSt W prog w A.in1 n G0 h0 C I I Yes a g i s Gc → g < s.gens.size →
      (∀ s' G', Ext W G0 h0 G' s'.heap → s'.os = s.os → GX g s.gens s'.gens → s'.gens[g]? = some .finished → R (.ok (.ret (.bool true))) s') →
      codeAny (model prog w) A (.builtin "all.loop" ⟨[.ref a], []⟩) R s := by
  intro k
  induction k with
  | zero =>
    intro i s Gc hk hi hg hgs hR
    have hin : i = n := by omega
    subst hin
    refine codeAny_builtin F.entry_all_loop ?_
    rw [Around.under_plainId F.plain_all_loop _]
    show wpAny _ A.in1 (pyNext (.ref a) >>= _) _ _ s
    have hl : s.heap.NoLimit := hl0.keeps fun b o q => hg.ext.into _ _ (hg.ext.sub _ _ q)
    refine wpAny_bind (hg.done hh hroom hl dI hIW hg.oI hg.lI fun s' e' kp os' gx fin => ?_)
    exact wpAny_bind (wpAny_rule (wpAny_pure (hR s' Gc e' os' gx fin)))
  | succ k ih =>
    intro i s Gc hk hi hg hgs hR
    have hlt : i < n := by omega
    refine codeAny_builtin F.entry_all_loop ?_
    rw [Around.under_plainId F.plain_all_loop _]
    show wpAny _ A.in1 (pyNext (.ref a) >>= _) _ _ s
    have hl : s.heap.NoLimit := hl0.keeps fun b o q => hg.ext.into _ _ (hg.ext.sub _ _ q)
    refine wpAny_bind (hg.item hh hroom hl hlt ha hg.oI hg.lI fun v s1 G1 hF oS1 hg1 kp1 os1 gx1 => ?_)
    have hF : v = .bool true := hF
    subst hF
    refine wpAny_bind (wpAny_holding (wpAny_of_eq (show truthy (.bool true) = pure true from rfl) ?_))
    refine wpAny_bind (wpAny_letGo ?_)
    simp only [if_true]
    exact wpAny_pure ⟨plainId_quiet F.plain_all_loop _, ih (i + 1) s1 G1 (by omega) hlt hg1 (Nat.lt_of_lt_of_le hgs gx1.1) fun s' G' e os gx fin => hR s' G' e (os.trans os1) (gx1.trans hgs gx) fin⟩
theorem all_call {s : Shared} {Gc : Heap} {Q : Value → Shared → Prop} (hh : A.in1.handled = none) (hroom : A.in1.depth < recursionLimit) (hl0 : G0.NoLimit) (hIW : I ∉ W) (ha : a ≠ C ∧ a ≠ I ∧ a ∉ W) (dI : Dead h0 I)
    (hg : GenSt W prog w A.in1 n G0 h0 C I I Yes a g 0 s Gc) (hgs : g < s.gens.size)
    (hQ : ∀ s' G', Ext W G0 h0 G' s'.heap → s'.os = s.os → GX g s.gens s'.gens → s'.gens[g]? = some .finished → Q (.bool true) s') :
    wpAny (model prog w) A (call (.builtin "all") [.ref a]) Q E s := by
  refine call_function_tree F.kind_all F.plain_all F.entry_all (F.args_all1 _) ?_
  unfold Builtin.«all»
  refine wpAny_bind (m := oneArg "all" _) (wpAny_pure ?_)
  refine wpAny_bind (wpAny_pyIter_gen hg.gen ?_)
  exact wpAny_pure ⟨plainId_quiet F.plain_all_loop _, all_loop hh hroom hl0 hIW ha dI n 0 s Gc rfl (Nat.zero_le _) hg hgs hQ⟩
variable {G h : Heap} {env : Env} {l lc lc' : List (Str × Value)} {x : Str}
/-- all(elt for x in iter), every element True -/
theorem T_allGen {P : Value → Heap → Heap → Prop} {elt iter : Expr} {px p0 pos gpos : Pos} {scope : Scope} {c Pt : Addr} {d : Nat} (hA : Rm A (d + 3)) (F : Fm w env G h l lc) (hOW : OffW TW env) (ok : gOk scope env = true)
    (hcode : env.code = .ref c) (hd : CodeHd G c Pt) (hPT : Pt ∈ TW) (tb : Tb h) (hPG : G.get? Pt = none) (hx : scope.names.lookup x = some .local) (hlc : ∀ p ∈ lc', p ∈ lc ∧ (p.1, NameKind.free) ∈ scope.names)
    (hk : env.kindOf "all" = some .globalImplicit) (hn : nsIn (KK w) mainGlobals "all" = some none)
    (y : T [] prog w A (eval iter env) G h (fun xv G1 h1 => ∃ n Pv, Iter prog w G1 xv n Pv ∧
      (∀ (A' : Around) i v Ga ha C code, Rm A' d → i < n → Pv i v → (∀ b o, G1.get? b = some o → Ga.get? b = some o) → Fm w (gEnv scope env C code) Ga ha [(x, v)] lc' → T [] prog w A' (eval elt (gEnv scope env C code)) Ga ha (fun u _ _ => u = .bool true)) ∧
      ∀ G' h', Ext TW G1 h1 G' h' → Tb h' → P (.bool true) G' h'))
    (hs : ∀ x, genFold iter env x = pure x := by intro _; rfl) (hst : starEach [.GeneratorExp elt [⟨.Name x px, iter, [], 0⟩] scope gpos] env = [(false, eval (.GeneratorExp elt [⟨.Name x px, iter, [], 0⟩] scope gpos) env)] := by rfl) :
    T TW prog w A (eval (.Call (.Name "all" p0) [.GeneratorExp elt [⟨.Name x px, iter, [], 0⟩] scope gpos] [] pos) env) G h P := fun s hh hi => by
  have y0 : T [] prog w A (eval (.Name "all" p0) env) G h (fun f G1 h1 => f = .builtin "all" ∧ G1 = G ∧ h1 = h) := T_builtin F hk (by with_unfolding_all rfl) hn (by decide) ⟨rfl, rfl, rfl⟩
  refine PyProof.Rows.Call_Name1 (y0.run hh hi fun f s1 G1 e1 g1 z => ?_) hst
  obtain ⟨rfl, rfl, z3⟩ := z
  unfold callWith
  refine wpAny_bind (wpAny_holding (Calls.evalArgs_plain (Calls.spliced_cons ?_)))
  have hA1 : A.in1.handled = none := hA.hd
  have rm1 : Rm A.in1 (d + 2) := hA.in1
  have rm2 : Rm A.in1.in1 (d + 1) := rm1.in1
  refine gen_make (A2 := A.in1) (W := TW) (lc' := lc') hA1 hA.hd hA.room F hOW ok hcode hd hPT (fun a m => let ⟨ps, q, _⟩ := tb a m; ⟨_, q⟩) tb hPT hPG hx hlc hs z3 hi (y.mono fun xv G1 h1 _ yy => ?_)
  obtain ⟨n, Pv, it, turn, fin⟩ := yy
  refine ⟨n, Pv, Yes, it, fun A' i v Ga ha C code I hA' hi' hv sub F' eA => turn A' i v Ga ha C code (eA ▸ Rm.gen rm2) hi' hv sub F', ?_⟩
  intro s2 s3 hB a C I gx e2 g2 ex2 exB tbB gst da dC dI hne hgens hos ex3
  refine Calls.spliced_nil (wpAny_bind (wpAny_standAt ?_))
  refine wpAny_bind ((Looks.of_pure (M := model prog w) (h := s3.heap) (rfl : keeperOf (.builtin "all") = pure .machine)).here ?_)
  have tail : ∀ {t : Sem Value} {Q : Value → Shared → Prop} {E : Value → Shared → Prop}, wpAny (model prog w) A t Q E s3 → wpAny (model prog w) A (t >>= fun r => holding [r] point >>= fun _ => pure r) Q E s3 :=
    fun ht => wpAny_bind (wpAny_mono ht (fun r s₂ hr => wpAny_bind (wpAny_holding (wpAny_point (wpAny_pure hr)))) fun _ _ x => x)
  dsimp only
  refine tail ?_
  have F1 : TopG w G1 := F.top.keeps ex2.sub
  obtain ⟨mg, mb, tt⟩ := F1.t
  have hgs : s3.gens = s2.gens.push gx := hgens
  refine all_call (W := []) (n := n) (g := s2.gens.size) (C := C) (I := I) hA1 rm1.room tt.nolimit (by simp) ⟨hne.1, hne.2, by simp⟩ dI (gst I) (by rw [hgs]; simp) fun s4 G4 e4 os4 gx4 fin4 => ?_
  refine ⟨G4, ex2.wk.trans (exB.trans e4.wk), g1.trans (g2.trans (GO.of_gx (x := gx) (os4.trans hos) (hgs ▸ gx4) fin4)), fin G4 s4.heap (exB.trans e4.wk) (tbB.ext e4)⟩
end
end
section
section
variable {W : List Addr} {prog : Program} {w : World} {A : Around} {G h G₀ h₀ : Heap} {env : Env} {P : Value → Heap → Heap → Prop}
theorem T_itemT {value slice : Expr} {a : Addr} {vs : List Value} {i : Nat} {x : Value} {k : Int} {t : Tok} (hl : TAt G a vs) (hk : k = i) (hx : vs[i]? = some x) (hz : vs.length ≤ 1000) (p : P x G h)
    (hs : subscripted slice false (.ref a) (.int k t) = operate [.ref a, .int k t] (getItem (.ref a) (.int k t)) := by with_unfolding_all rfl) : T W prog w A (subscriptTail value slice (.ref a) (.int k t)) G h P := fun s hs' hi => by
  subst hs'
  have hl := (hl.keeps hi).isTup
  have hlt : i < vs.length := (List.getElem?_eq_some_iff.mp hx).1
  exact tail_any hl.typeIs PySem.F.slot_tuple_getitem.lookup (getItem_tuple hl (by omega) (by omega) (j := i) (by rw [hk]; unfold seqIndex?; simp; omega) (by simpa using hx) ⟨G, Ext.refl hi, GO.refl _, p⟩) hs
theorem T_lenT {a : Addr} {vs : List Value} (hl : TAt G a vs) (hz : vs.length ≤ 1000) (p : ∀ t, P (.int vs.length t) G h) : T W prog w A (call (.builtin "len") [.ref a] []) G h P := fun s hs hi => by
  subst hs
  have hl := (hl.keeps hi).isTup
  refine PyProof.Rows.len_tuple hl (by simp; omega) ⟨G, Ext.refl hi, GO.same rfl rfl, ?_⟩
  rw [List.size_toArray]; exact p _
end
end
section
section
variable {W : List Addr} {prog : Program} {w : World} {A : Around} {G h G₀ h₀ : Heap} {env : Env}
theorem Ext.butNew {G0 h0 G h h' : Heap} (e : Ext W G0 h0 G h) (x : Heap.ExtBut h.objs.size h h') : Ext W G0 h0 G h' := by
  have k : ∀ b o, h.get? b = some o → h'.get? b = some o := fun b o q => x b o (Nat.ne_of_lt (Heap.lt_size q)) q
  exact ⟨fun b o n q => k _ _ (e.keep b o n q), fun b o q => let ⟨o', q'⟩ := e.live b o q; ⟨o', k _ _ q'⟩, e.sub, e.fresh, fun b o q => k _ _ (e.into b o q)⟩
/-- a, b = t for a tuple t: the targets are stored one after the other -/
theorem B_unpackT {P : Unit → Heap → Heap → Prop} {elts : List Expr} {k} {pos : Pos} {t : Addr} {vs : List Value} (hA : A.handled = none) (ht : TAt G t vs) (hi : In G h)
    (y : ∀ h1, Ext [] G h G h1 → B W prog w A G₀ h₀ (assignInOrder ((assignEach elts env).map (·.2)) vs) G h1 P)
    (hn : (assignEach elts env).length = vs.length := by rfl) (hstar : (assignEach elts env).findIdx? (·.1) = none := by rfl) : B W prog w A G₀ h₀ (assign (.Tuple elts k pos) env (.ref t)) G h P := fun s₀ s h0 hs g e => by
  subst hs
  refine assign_Tuple_tuple hA (ht.keeps e.into).isTup (by simpa using hn) hstar fun h' x => ?_
  have z := y h' ((Ext.refl hi).butNew x) s₀ { s with heap := h' } h0 rfl ⟨g.os, g.gens⟩ (e.butNew x)
  simpa using z
theorem B_orderNil {P : Unit → Heap → Heap → Prop} {xs : List Value} (p : P () G h) : B W prog w A G₀ h₀ (assignInOrder [] xs) G h P := fun s₀ s h0 hs g e => by
  subst hs
  exact assignInOrder_nil ⟨G, e, g, p⟩
theorem B_orderCons {P : Unit → Heap → Heap → Prop} {f : Value → Sem Unit} {ts : List (Value → Sem Unit)} {x : Value} {xs : List Value} (y : B W prog w A G₀ h₀ (f x) G h (fun _ G1 h1 => B W prog w A G₀ h₀ (assignInOrder ts xs) G1 h1 P)) :
    B W prog w A G₀ h₀ (assignInOrder (f :: ts) (x :: xs)) G h P := fun s₀ s h0 hs g e =>
  assignInOrder_cons (y.run h0 hs g e fun v s1 G1 e1 g1 z => z.run h0 rfl g1 e1 fun _ s2 G2 e2 g2 p => ⟨G2, e2, g2, p⟩)
theorem B_assignName {P : Unit → Heap → Heap → Prop} {x : Str} {px : Pos} {v : Value} (y : B W prog w A G₀ h₀ (storeName env x v) G h P) : B W prog w A G₀ h₀ (assign (.Name x px) env v) G h P := fun s₀ s h0 hs g e =>
  PyProof.Rows.assign_Name (y s₀ s h0 hs g e)
end
end
section
section
variable {W : List Addr} {prog : Program} {w : World} {A : Around} {G h G₀ h₀ : Heap} {env : Env} {l lc : List (Str × Value)}
/-- a loop of a comprehension with several loops; V are the objects that a turn may change -/
theorem comp_loop {elt : Expr} {gens : List Comprehension} {scope : Scope} {pos : Pos} {depth : Nat} {x : Str} {px p : Pos} {cenv : Env} {body : Sem Unit} {Dv : Value} {R : Result → Shared → Prop} {V fp : List Addr} {I : Addr} {n : Nat}
    {Pv : Nat → Value → Prop} {St : Nat → Heap → Prop} {J : Nat → Heap → Heap → Prop} {s₀ s : Shared} {G1 : Heap} (hA : A.handled = none)
    (heq : compTurn (.ListComp elt gens scope pos) depth (.ref I) Dv cenv = (standAt p >>= fun _ => pyNext (.ref I) >>= fun r => match r with
      | none => pure (.done .next)
      | some v => assign (.Name x px) cenv v >>= fun _ => body >>= fun _ => again (.compLoop (.ListComp elt gens scope pos) depth (.ref I) Dv cenv)))
    (wk : Walks prog w A I fp [I] n Pv St) (hst0 : St 0 s.heap) (hfp : ∀ b ∈ fp, b ≠ I → ∃ o, G1.get? b = some o) (hlv : ∀ i h, St i h → ∃ o, h.get? I = some o)
    (h0 : s₀.heap = h₀) (ex : Ext W G₀ h₀ G1 s.heap) (g : GO s₀ s) (dI : Dead h₀ I) (oI : G1.get? I = none) (IV : I ∉ V) (hV : ∀ a ∈ V, a ∈ W ∨ Dead h₀ a)
    (j0 : J 0 G1 s.heap) (hst : ∀ i Ga ha hb, J i Ga ha → (∀ b o, b ≠ I → ha.get? b = some o → hb.get? b = some o) → In Ga hb → J i Ga hb)
    (turn : ∀ i Ga ha v, i < n → Pv i v → J i Ga ha → (∀ b o, G1.get? b = some o → Ga.get? b = some o) → (∃ o, ha.get? I = some o) →
      B V prog w A Ga ha (storeName cenv x v) Ga ha (fun _ Gb hb => B V prog w A Ga ha body Gb hb (fun _ Gc hc => J (i + 1) Gc hc)))
    (fin : ∀ Ga s', J n Ga s'.heap → Ext W G₀ h₀ Ga s'.heap → GO s₀ s' → (∀ b o, G1.get? b = some o → Ga.get? b = some o) → Ga.get? I = none → R (.ok .next) s') :
    codeAny (model prog w) A (.compLoop (.ListComp elt gens scope pos) depth (.ref I) Dv cenv) R s := by
  refine codeAny_loop rfl (fun k s' => ∃ i Ga, k = n - i ∧ i ≤ n ∧ J i Ga s'.heap ∧ St i s'.heap ∧ Ext W G₀ h₀ Ga s'.heap ∧ GO s₀ s' ∧ Ga.get? I = none ∧ (∀ b o, G1.get? b = some o → Ga.get? b = some o)) ?_ n ⟨0, G1, rfl, Nat.zero_le _, j0, hst0, ex, g, oI, fun _ _ q => q⟩
  rintro k s' ⟨i, Ga, rfl, hi, hJ, hst', e', g', oI, sub⟩
  show wpAny _ A ((compTurn (.ListComp elt gens scope pos) depth (.ref I) Dv cenv).onRaise (fun x => do noteFrame x cenv; theTreesLotGoes x)) _ _ s'
  refine wpAny_noted ?_
  rw [heq]
  refine wpAny_bind (wpAny_standAt (wpAny_bind ?_))
  rcases Nat.lt_or_ge i n with lt | ge
  · refine wk.item i s' _ _ lt hst' fun v h' tk hv hst2 hk => ?_
    have hk' : ∀ b o, b ≠ I → s'.heap.get? b = some o → h'.get? b = some o := fun b o hb q => hk b o (by simpa using hb) q
    have e2 : Ext W G₀ h₀ Ga h' := e'.upd hk' (.inr dI) (hlv _ _ hst2) oI
    have j2 : J i Ga h' := hst i Ga s'.heap h' hJ hk' e2.into
    have t := turn i Ga h' v lt hv j2 sub (hlv _ _ hst2)
    refine wpAny_bind (wpAny_assign_Name ?_)
    refine wpAny_mono (t { s' with heap := h', toks := tk } { s' with heap := h', toks := tk } rfl rfl (GO.refl _) (Ext.refl e2.into)) ?_ fun _ _ z => z.elim
    rintro _ s3 ⟨Gb, eb, gb, t2⟩
    refine wpAny_bind (wpAny_mono (t2 { s' with heap := h', toks := tk } s3 rfl rfl gb eb) ?_ fun _ _ z => z.elim)
    rintro _ s4 ⟨Gc, ec, gc, q⟩
    have e4 : Ext W G₀ h₀ Gc s4.heap := e2.weak ec hV
    have g4 : GO s₀ s4 := g'.trans ⟨gc.os, gc.gens⟩
    obtain ⟨oI', qI⟩ := hlv _ _ hst2
    have keepI : s4.heap.get? I = some oI' := ec.keep I oI' IV qI
    refine wpAny_pure ⟨rfl, n - (i + 1), by omega, i + 1, Gc, rfl, lt, q, ?_, e4, g4, off_ext ec oI ⟨_, qI⟩, fun b o z => ec.sub b o (sub b o z)⟩
    refine wk.frame _ _ _ hst2 fun b hb o' q' => ?_
    by_cases hbI : b = I
    · subst hbI; exact ec.keep _ _ IV q'
    · obtain ⟨o'', z⟩ := hfp b hb hbI
      have z1 := ec.into _ _ (ec.sub _ _ (sub _ _ z))
      have z2 := e2.into _ _ (sub _ _ z)
      rw [z2] at q'; cases q'; exact z1
  · obtain rfl : i = n := by omega
    refine wk.done s' _ _ hst' fun h' tk hk => ?_
    have hk' : ∀ b o, b ≠ I → s'.heap.get? b = some o → h'.get? b = some o := fun b o hb q => hk b o (by simpa using hb) q
    have e2 : Ext W G₀ h₀ Ga h' := e'.updD hk' dI oI
    exact wpAny_pure (fin Ga { s' with heap := h', toks := tk } (hst i Ga s'.heap h' hJ hk' e2.into) e2 (g'.trans (GO.same rfl rfl)) sub oI)
end
end
section
section
variable {W : List Addr} {prog : Program} {w : World} {A : Around} {G h G₀ h₀ : Heap} {env : Env} {l lc : List (Str × Value)}
theorem compTurn_two0 (elt it1 it2 : Expr) (x y : Str) (px py : Pos) (scope : Scope) (pos : Pos) (it acc : Value) (env : Env) :
    compTurn (.ListComp elt [⟨.Name x px, it1, [], 0⟩, ⟨.Name y py, it2, [], 0⟩] scope pos) 0 it acc env = (standAt it1.pos >>= fun _ => pyNext it >>= fun r => match r with
      | none => pure (.done .next)
      | some v => assign (.Name x px) env v >>= fun _ =>
        (eval it2 env >>= fun z => standAt it2.pos >>= fun _ => foldedSetIterable it2 env z >>= fun z => holding [z] (pyIter z) >>= fun i => runOwn (.compStart (.ListComp elt [⟨.Name x px, it1, [], 0⟩, ⟨.Name y py, it2, [], 0⟩] scope pos) 1 i acc env) env >>= fun _ => pure ()) >>= fun _ =>
          again (.compLoop (.ListComp elt [⟨.Name x px, it1, [], 0⟩, ⟨.Name y py, it2, [], 0⟩] scope pos) 0 it acc env)) := by
  have e : compTurn (.ListComp elt [⟨.Name x px, it1, [], 0⟩, ⟨.Name y py, it2, [], 0⟩] scope pos) 0 it acc env = (standAt it1.pos >>= fun _ => pyNext it >>= fun r => match r with
      | none => pure (.done .next)
      | some v => assign (.Name x px) env v >>= fun _ =>
        (eval it2 env >>= fun z => standAt it2.pos >>= fun _ => foldedSetIterable it2 env z >>= fun z => holding [z] (pyIter z) >>= fun i => runOwn (.compStart (.ListComp elt [⟨.Name x px, it1, [], 0⟩, ⟨.Name y py, it2, [], 0⟩] scope pos) 1 i acc env) env >>= fun _ =>
          again (.compLoop (.ListComp elt [⟨.Name x px, it1, [], 0⟩, ⟨.Name y py, it2, [], 0⟩] scope pos) 0 it acc env))) := by rfl
  rw [e]
  congr 1; funext _; congr 1; funext r
  cases r with
  | none => rfl
  | some v => dsimp only; congr 1; funext _; simp only [bind_assoc, pure_bind]
theorem Ext.k0 {G h G' h' : Heap} (e : Ext [] G h G' h') : ∀ b o, h.get? b = some o → h'.get? b = some o := fun b o q => e.keep b o (by simp) q
theorem compTurn_two1 (elt it1 it2 : Expr) (x y : Str) (px py : Pos) (scope : Scope) (pos : Pos) (it acc : Value) (env : Env) :
    compTurn (.ListComp elt [⟨.Name x px, it1, [], 0⟩, ⟨.Name y py, it2, [], 0⟩] scope pos) 1 it acc env = (standAt it2.pos >>= fun _ => pyNext it >>= fun r => match r with
      | none => pure (.done .next)
      | some v => assign (.Name y py) env v >>= fun _ => (eval elt env >>= fun x => call (.builtin "list.append") [acc, x] >>= fun _ => pure ()) >>= fun _ =>
          again (.compLoop (.ListComp elt [⟨.Name x px, it1, [], 0⟩, ⟨.Name y py, it2, [], 0⟩] scope pos) 1 it acc env)) := by rfl
theorem codeAny_compStart_two {R : Result → Shared → Prop} {s : Shared} {elt it1 it2 : Expr} {t1 t2 : Expr} {scope pos it acc env}
    (h0 : codeAny (model prog w) A (.compLoop (.ListComp elt [⟨t1, it1, [], 0⟩, ⟨t2, it2, [], 0⟩] scope pos) 1 it acc env) R s)
    (h : wpAny (model prog w) A (pyIter it) (fun it' s' => codeAny (model prog w) A (.compLoop (.ListComp elt [⟨t1, it1, [], 0⟩, ⟨t2, it2, [], 0⟩] scope pos) 1 it' acc env) R s')
      (notedBy (model prog w) A env fun x s' => R (.error x) s') s) :
    codeAny (model prog w) A (.compStart (.ListComp elt [⟨t1, it1, [], 0⟩, ⟨t2, it2, [], 0⟩] scope pos) 1 it acc env) R s := by
  refine codeAny_of_tree ?_
  show wpAny _ A ((compStart (.ListComp elt [⟨t1, it1, [], 0⟩, ⟨t2, it2, [], 0⟩] scope pos) 1 it acc env).onRaise (fun x => do noteFrame x env; standAt theWindowsPlace)) _ _ s
  refine wpAny_notedAt ?_
  unfold compStart
  show wpAny _ A (ask >>= _) _ _ s
  refine wpAny_bind (wpAny_askSetting (wpAny_ite ?_))
  split
  · first
      | exact wpAny_bind (wpAny_pure (wpAny_pure (And.intro rfl h0)))
      | exact wpAny_pure (And.intro rfl h0)
  · first
      | exact wpAny_bind (wpAny_rule (wpAny_bind (wpAny_standAt (wpAny_bind (wpAny_mono h (fun it' s' h' => wpAny_pure (And.intro rfl h')) fun _ _ x => x)))))
      | (refine wpAny_bind (wpAny_rule ?_); show wpAny _ A (standAt it2.pos >>= _) _ _ s; exact wpAny_bind (wpAny_standAt (wpAny_bind (wpAny_mono h (fun it' s' h' => wpAny_pure (And.intro rfl h')) fun _ _ x => x))))
abbrev Trues (ys : List Value) : Prop := ∀ y ∈ ys, y = .bool true
/-- [elt for x in it1 for y in it2], every element True -/
theorem T_Comp2 {P : Value → Heap → Heap → Prop} {elt it1 it2 : Expr} {x y : Str} {px py pos : Pos} {scope : Scope} (lc' : List (Str × Value)) (hA : A.handled = none) (F : Fm w env G h l lc) (ok : compOk scope env = true)
    (hx : (x, NameKind.local) ∈ scope.names) (hy : (y, NameKind.local) ∈ scope.names) (hxy : y ≠ x) (hlc : ∀ p ∈ lc', p ∈ lc ∧ (p.1, NameKind.free) ∈ scope.names)
    (yv : T [] prog w A (eval it1 env) G h (fun xv G1 h1 => ∃ n Pv, Iter prog w G1 xv n Pv ∧ n ≤ 30 ∧
      (∀ i v L Ga ha, i < n → Pv i v → (∀ b o, G1.get? b = some o → Ga.get? b = some o) → Fm w (compEnv scope env L) Ga ha [(x, v)] lc' → T [] prog w A (eval it2 (compEnv scope env L)) Ga ha (fun zv Gb hb => ∃ m Qv, m ≤ 30 ∧ Iter prog w Gb zv m Qv ∧
        ∀ j u Gc hc, j < m → Qv j u → (∀ b o, Gb.get? b = some o → Gc.get? b = some o) → Fm w (compEnv scope env L) Gc hc [(y, u), (x, v)] lc' → T [] prog w A (eval elt (compEnv scope env L)) Gc hc (fun r _ _ => r = .bool true))) ∧
      ∀ a Ga ha ys, Ext [] G h Ga ha → LAt Ga a ys → Trues ys → ys.length ≤ 1000 → P (.ref a) Ga ha))
    (hs1 : ∀ x, foldedSetIterable it1 env x = pure x := by intro _; rfl) (hs2 : ∀ e x, foldedSetIterable it2 e x = pure x := by intro _ _; rfl) :
    T [] prog w A (eval (.ListComp elt [⟨.Name x px, it1, [], 0⟩, ⟨.Name y py, it2, [], 0⟩] scope pos) env) G h P := fun s hh hi => by
  rw [eval_ListComp]
  have okf : freeOk env.cells scope.names = true := (Bool.and_eq_true_iff.mp (Bool.and_eq_true_iff.mp ok).1).2
  have on : onceAll scope.names = true := (Bool.and_eq_true_iff.mp (Bool.and_eq_true_iff.mp ok).1).1
  have okk : scope.kind = .function := compFrame.beq_kind (Bool.and_eq_true_iff.mp ok).2
  refine wpAny_comprehension_free (use := none) (g := ⟨.Name x px, it1, [], 0⟩) (gs := [⟨.Name y py, it2, [], 0⟩]) rfl hs1 (closureFor_eq okf) okk (fun p hp e => once_lookup on (by rw [← e]; exact hp)) ?_
  refine yv.run hh hi fun xv s1 G1 e1 g1 z => ?_
  obtain ⟨n, Pv, it, hn30, turn, fin⟩ := z
  refine it A s1 _ _ hA e1.into fun I o fp Sw hI hIo hwk hSw hfp hlv => ?_
  refine wpAny_newObj_type (newCompEnv ?_)
  dsimp only
  have wk := hwk A hA
  generalize hH1 : s1.heap.push o = H1 at hIo hSw
  have k1 : ∀ b o', s1.heap.get? b = some o' → H1.get? b = some o' := fun b o' e => hH1 ▸ Heap.get?_push_of_some _ e
  generalize hD : H1.objs.size = D
  generalize hH2 : H1.push { cls := .type "list", dict := none, data := .seq ([] : List Value).toArray } = H2
  have k2 : ∀ b o', H1.get? b = some o' → H2.get? b = some o' := fun b o' e => hH2 ▸ Heap.get?_push_of_some _ e
  have d2 : LAt H2 D [] := ⟨0, by rw [← hH2, ← hD]; exact Heap.get?_push_size _ rfl⟩
  have deadD : Dead s1.heap D := by
    cases q : s1.heap.get? D with
    | none => exact q
    | some o' => exact absurd (Heap.lt_size (k1 _ _ q)) (by rw [hD]; exact Nat.lt_irrefl _)
  have F2 : Fm w env G1 H2 l lc := (F.ext (W := []) e1).other (fun b o' _ e => k2 _ _ (k1 _ _ e)) (fun b o' e => k2 _ _ (k1 _ _ (e1.into _ _ e)))
  obtain ⟨F3, own, cls, hasC⟩ := compFrame (lc' := lc') F2 rfl ok hlc
  generalize hC : H2.objs.size = C at F3 own cls hasC
  generalize hH3 : pushCells (H2.push { cls := .type "dict", data := .dict #[] }) scope.names = H3 at F3
  have k3 : ∀ b o', H2.get? b = some o' → H3.get? b = some o' := fun b o' e => hH3 ▸ pushCells_keeps _ _ b o' (Heap.get?_push_of_some _ e)
  have dead12 : ∀ b, Dead H2 b → Dead s1.heap b := fun b d => by
    cases q : s1.heap.get? b with
    | none => exact q
    | some o' => have := k2 _ _ (k1 _ _ q); rw [show H2.get? b = none from d] at this; cases this
  have deadC2 : Dead H2 C := dead_of (Nat.le_of_eq hC)
  have deadC : Dead s1.heap C := dead12 C deadC2
  have liveI : ∃ o', H2.get? I = some o' := ⟨_, k2 _ _ hIo⟩
  have liveD : ∃ o', H2.get? D = some o' := let ⟨k, q⟩ := d2; ⟨_, q⟩
  have neDI : D ≠ I := fun e => by
    have := Heap.lt_size hIo
    rw [hD, e] at this; exact Nat.lt_irrefl _ this
  have neOf : ∀ b c, (∃ o', H2.get? b = some o') → Dead H2 c → b ≠ c := fun b c ⟨o', q⟩ d e => by subst e; rw [show H2.get? b = none from d] at q; cases q
  have cellNe : ∀ b, (b = C ∨ ∃ n, (compEnv scope env C).cells.lookup n = some b) → b ≠ I ∧ b ≠ D := fun b hb => by
    rcases hb with rfl | ⟨nn, hn⟩
    · exact ⟨(neOf _ _ liveI deadC2).symm, (neOf _ _ liveD deadC2).symm⟩
    · rcases cls nn b hn with d | q
      · exact ⟨(neOf _ _ liveI d).symm, (neOf _ _ liveD d).symm⟩
      · obtain ⟨v, x⟩ := (F.ext (W := []) e1).cell nn b q
        obtain ⟨o', x, _⟩ := x
        exact ⟨fun e => (by subst e; rw [show s1.heap.get? b = none from hI] at x; cases x), fun e => (by subst e; rw [show s1.heap.get? b = none from deadD] at x; cases x)⟩
  have offG : ∀ a, Dead s1.heap a → G1.get? a = none := fun a d => by
    cases q : G1.get? a with
    | none => rfl
    | some o' => have := e1.into _ _ q; rw [show s1.heap.get? a = none from d] at this; cases this
  have x3 : Ext [] G1 s1.heap G1 H3 := ⟨fun b o' _ e => k3 _ _ (k2 _ _ (k1 _ _ e)), fun b o' e => ⟨o', k3 _ _ (k2 _ _ (k1 _ _ e))⟩, fun _ _ e => e, fun _ o' e => .inl ⟨o', e⟩, F3.into⟩
  have hCD : D ≠ C := neOf _ _ liveD deadC2
  have hCI : I ≠ C := neOf _ _ liveI deadC2
  have kx : (compEnv scope env C).kindOf x = some .local := lookup_relabel (by decide) (once_lookup on hx)
  have ky : (compEnv scope env C).kindOf y = some .local := lookup_relabel (by decide) (once_lookup on hy)
  have lC : (compEnv scope env C).locals = C := rfl
  have loop : ∀ s4 : Shared, s4.heap = H3 → GO s1 s4 → codeAny (model prog w) A (.compLoop (.ListComp elt [⟨.Name x px, it1, [], 0⟩, ⟨.Name y py, it2, [], 0⟩] scope pos) 0 (.ref I) (.ref D) (compEnv scope env C)) (compPost (model prog w) A (fun _ _ => False) none
      (fun a s' => ∃ G', Ext [] G h G' s'.heap ∧ GO s s' ∧ P a G' s'.heap) (.ref D) C) s4 := by
    intro s4 hs4 g4
    refine comp_loop (V := [C, D]) (W := []) (G₀ := G1) (h₀ := s1.heap) (s₀ := s1) (G1 := G1) (I := I) (n := n) (Pv := Pv) (St := Sw) (fp := fp)
      (J := fun i Gx hx => Fm w (compEnv scope env C) Gx hx [] lc' ∧ (∃ ys, LAt hx D ys ∧ ys.length ≤ i * 30 ∧ Trues ys) ∧ Gx.get? D = none) hA (compTurn_two0 ..) wk (hs4 ▸ wk.frame _ _ _ hSw fun b _ o' q => k3 _ _ (k2 _ _ q)) hfp hlv rfl (hs4 ▸ x3) g4 hI (offG I hI) ?_ ?_ ?_ ?_ ?_ ?_
    · simp only [List.mem_cons, List.not_mem_nil, or_false, not_or]; exact ⟨hCI, neDI.symm⟩
    · intro a ha
      simp only [List.mem_cons, List.not_mem_nil, or_false] at ha
      rcases ha with rfl | rfl
      · exact .inr deadC
      · exact .inr deadD
    · rw [hs4]
      exact ⟨F3, ⟨[], let ⟨k, q⟩ := d2; ⟨k, k3 _ _ q⟩, Nat.zero_le _, fun y hy => by cases hy⟩, offG D deadD⟩
    · rintro i Ga ha hb ⟨Fa, ⟨ys, ⟨k, hl⟩, hlen, hT⟩, oD⟩ hk hin
      exact ⟨Fa.other (fun b o hb' q => hk b o (cellNe b hb').1 q) hin, ⟨ys, ⟨k, hk _ _ neDI hl⟩, hlen, hT⟩, oD⟩
    · rintro i Ga ha v hi' hv ⟨Fa, ⟨ys, hl, hlen, hT⟩, oD⟩ sub lI
      refine B_storeL Fa (.inl (by rw [lC]; exact List.mem_cons_self)) kx rfl fun h5 sb5 F5 => ?_
      have hl5 : LAt h5 D ys := let ⟨k, q⟩ := hl; ⟨k, sb5.extBut _ _ hCD q⟩
      refine B_bindT (T.weak ((turn i v C Ga h5 hi' hv sub F5).mono ?_))
      rintro zv Gb h6 e6 ⟨m, Qv, hm30, itb, turn2⟩
      have F6 := F5.ext e6
      have hl6 : LAt h6 D ys := let ⟨k, q⟩ := hl5; ⟨k, e6.k0 _ _ q⟩
      refine B_seq ?_
      rw [hs2]
      show B [C, D] prog w A Ga ha (pure zv >>= _) _ _ _
      refine B_bind (B_pure ?_)
      intro s₀ s5 h0 hs5 g5 e5
      subst hs5
      refine wpAny_bind (wpAny_holding ?_)
      refine itb A s5 _ _ hA e5.into fun I2 o2 fp2 St2 hI2 hIo2 hwk2 hSt2 hfp2 hlv2 => ?_
      refine wpAny_bind (wpAny_runOwn ?_)
      have wk2 := hwk2 A hA
      have dI2 : Dead ha I2 := e5.dead hI2
      have oI2 : Gb.get? I2 = none := by
        cases q : Gb.get? I2 with
        | none => rfl
        | some o' => have := e5.into _ _ q; rw [show s5.heap.get? I2 = none from hI2] at this; cases this
      have exP : Ext [C, D] Ga ha Gb (s5.heap.push o2) := ⟨fun b o' n q => Heap.get?_push_of_some _ (e5.keep b o' n q), fun b o' q => let ⟨o'', q'⟩ := e5.live b o' q; ⟨o'', Heap.get?_push_of_some _ q'⟩, e5.sub, e5.fresh, fun b o' q => Heap.get?_push_of_some _ (e5.into b o' q)⟩
      have liveF6 : ∀ b, (b = C ∨ ∃ n, (compEnv scope env C).cells.lookup n = some b) → b ≠ I2 := fun b hb z => by
        obtain ⟨o', q⟩ := F6.live hb
        rw [z, show s5.heap.get? I2 = none from hI2] at q; cases q
      have neD2 : D ≠ I2 := fun z => by
        obtain ⟨k, q⟩ := hl6
        rw [z, show s5.heap.get? I2 = none from hI2] at q; cases q
      have oDb : Gb.get? D = none := off_ext e6 oD (let ⟨k, q⟩ := hl5; ⟨_, q⟩)
      have loop2 : ∀ s6 : Shared, s6.heap = s5.heap.push o2 → GO s₀ s6 → codeAny (model prog w) (A.mark none) (.compLoop (.ListComp elt [⟨.Name x px, it1, [], 0⟩, ⟨.Name y py, it2, [], 0⟩] scope pos) 1 (.ref I2) (.ref D) (compEnv scope env C))
          (fun r s' => match r with
            | .ok f => wpAny (model prog w) A (pure ()) (fun _ s' => ∃ G', Ext [C, D] Ga ha G' s'.heap ∧ GO s₀ s' ∧ (Fm w (compEnv scope env C) G' s'.heap [] lc' ∧ (∃ ys, LAt s'.heap D ys ∧ ys.length ≤ (i + 1) * 30 ∧ Trues ys) ∧ G'.get? D = none)) (fun _ _ => False) s'
            | .error e => cameBackBy (model prog w) A (compEnv scope env C) (fun _ _ => False) e s') s6 := by
        intro s6 hs6 g6
        show codeAny (model prog w) A _ _ s6
        refine comp_loop (V := [C, D]) (W := [C, D]) (G₀ := Ga) (h₀ := ha) (s₀ := s₀) (G1 := Gb) (I := I2) (n := m) (Pv := Qv) (St := St2) (fp := fp2)
          (J := fun j Gx hx => Fm w (compEnv scope env C) Gx hx [(x, v)] lc' ∧ (∃ ys, LAt hx D ys ∧ ys.length ≤ i * 30 + j ∧ Trues ys) ∧ Gx.get? D = none) hA (compTurn_two1 ..) wk2 (hs6 ▸ hSt2) hfp2 hlv2 h0 (hs6 ▸ exP) g6 dI2 oI2 ?_ (fun a ha => .inl ha) ?_ ?_ ?_ ?_
        · simp only [List.mem_cons, List.not_mem_nil, or_false, not_or]; exact ⟨fun z => liveF6 C (.inl rfl) z.symm, neD2.symm⟩
        · rw [hs6]
          exact ⟨F6.other (fun b o' _ q => Heap.get?_push_of_some _ q) exP.into, ⟨ys, let ⟨k, q⟩ := hl6; ⟨k, Heap.get?_push_of_some _ q⟩, hlen, hT⟩, oDb⟩
        · rintro j Gx hx hy ⟨Fx, ⟨zs, ⟨k, hz⟩, hzl, hzT⟩, oDx⟩ hk hin
          exact ⟨Fx.other (fun b o hb' q => hk b o (liveF6 b hb') q) hin, ⟨zs, ⟨k, hk _ _ neD2 hz⟩, hzl, hzT⟩, oDx⟩
        · rintro j Gx hx u hj hu ⟨Fx, ⟨zs, hz, hzl, hzT⟩, oDx⟩ subx lI2
          refine B_storeL Fx (.inl (by rw [lC]; exact List.mem_cons_self)) ky (by show ((x != y) && true) = true; rw [Bool.and_true, bne_iff_ne]; exact hxy.symm) fun h8 sb8 F8 => ?_
          have hz8 : LAt h8 D zs := let ⟨k, q⟩ := hz; ⟨k, sb8.extBut _ _ hCD q⟩
          refine B_bindT (T.weak ((turn2 j u Gx h8 hj hu subx F8).mono ?_))
          rintro r Gy h9 e9 rfl
          have F9 := F8.ext e9
          have hz9 : LAt h9 D zs := let ⟨k, q⟩ := hz8; ⟨k, e9.k0 _ _ q⟩
          have oD9 : Gy.get? D = none := off_ext e9 oDx (let ⟨k, q⟩ := hz8; ⟨_, q⟩)
          intro s8 s9 h08 hs9 g9 ex9
          subst hs9
          refine wpAny_bind ?_
          obtain ⟨kz, hz9⟩ := hz9
          have lenOk : zs.length < 100000 := by
            have : i * 30 ≤ 30 * 30 := Nat.mul_le_mul_right 30 (by omega)
            omega
          refine wpAny_list_append_plain (items := zs.toArray) ⟨kz, hz9⟩ (fun h10 hl10 sb10 => ?_) (by rw [List.size_toArray, sizeLine_eq]; omega)
          have e10 : Ext [C, D] Gx hx Gy h10 := ex9.upd sb10.extBut (.inl (by simp)) (let ⟨k, q⟩ := hl10; ⟨_, q⟩) oD9
          refine wpAny_pure ⟨Gy, e10, ⟨g9.os, g9.gens⟩, (F9.weak (by simp) (by simp)).other (fun b o' hb q => sb10.extBut b o' (cellNe b hb).2 q) e10.into, ⟨zs ++ [.bool true], ?_, by simp; omega, ?_⟩, oD9⟩
          · obtain ⟨k, q⟩ := hl10
            exact ⟨k, by rw [q]; simp⟩
          · intro y hy
            rcases List.mem_append.mp hy with hy | hy
            · exact hzT y hy
            · simpa using hy
        · rintro Gx s7 ⟨Fx, ⟨zs, hz, hzl, hzT⟩, oDx⟩ ex7 g7 subx oIx
          exact wpAny_pure ⟨Gx, ex7, g7, Fx.weak (by simp) (by simp), ⟨zs, hz, by omega, hzT⟩, oDx⟩
      exact codeAny_compStart_two (loop2 _ rfl (g5.trans (GO.same rfl rfl))) (wk2.self 0 _ _ _ hSt2 (loop2 _ rfl (g5.trans (GO.same rfl rfl))))
    · rintro Gx s7 ⟨Fx, ⟨zs, hz, hzl, hzT⟩, oDx⟩ ex7 g7 subx oIx
      obtain ⟨m, hm, _⟩ := Fx.ns
      refine ⟨m, hm, fun h' sb => ?_⟩
      obtain ⟨kq, hz⟩ := hz
      have e3 := ex7.freeze hz deadD oDx rfl
      have oC : (addAt Gx D { cls := .type "list", data := .seq zs.toArray kq }).get? C = none := by rw [addAt_get rfl, if_neg hCD.symm]; exact Fx.offL
      have u1 := e3.updD sb.extBut deadC oC
      refine ⟨_, e1.trans u1, g1.trans ⟨g7.os, g7.gens⟩, fin D _ h' zs (e1.trans u1) ⟨kq, addAt_self rfl⟩ hzT ?_⟩
      have : n * 30 ≤ 30 * 30 := Nat.mul_le_mul_right 30 hn30
      omega
  subst hC hD
  subst hH1 hH2
  subst hH3
  have g4 : GO s1 { s1 with heap := pushCells (((s1.heap.push o).push { cls := .type "list", dict := none, data := .seq ([] : List Value).toArray }).push { cls := .type "dict", data := .dict #[] }) scope.names } := GO.same rfl rfl
  refine codeAny_compStart_list (loop _ rfl g4) (wk.self 0 _ _ _ ?_ (loop _ rfl g4))
  exact wk.frame _ _ _ hSw fun b _ o' q => k3 _ _ (k2 _ _ q)
end
end
section
section
variable {W : List Addr} {prog : Program} {w : World} {A : Around} {G h : Heap} {P : Value → Heap → Heap → Prop}
theorem T_allTrue {a : Addr} {ys : List Value} (hA : A.handled = none) (hl : LAt G a ys) (hT : Trues ys) (p : ∀ h', Ext W G h G h' → P (.bool true) G h') : T W prog w A (call (.builtin "all") [.ref a] []) G h P := fun s hs hi => by
  subst hs
  have hl2 := (hl.keeps hi).isList
  have hne : a ≠ s.heap.objs.size := fun e => by
    obtain ⟨k, q⟩ := hl
    have := Heap.lt_size (hi _ _ q)
    rw [e] at this; exact Nat.lt_irrefl _ this
  refine call_all_walk (wpAny_pyIter_list hl2 ?_)
  refine ⟨s.heap.objs.size, [s.heap.objs.size, a], [s.heap.objs.size], ys.toArray.size, _, _, fun _ => true, rfl, Walks.list (A := A.in1) hA _ a hne ys.toArray, ⟨⟨_, Heap.get?_push_size _ rfl, rfl, rfl⟩, hl2.push _⟩, fun i v s' Q' E' hP hQ => ?_, fun h' tk hk => ?_⟩
  · obtain rfl : v = .bool true := hT v (by
      have : ys[i]? = some v := by simpa using hP
      exact List.mem_of_getElem? this)
    exact wpAny_truthy_bool hQ
  · have e : ((List.range ys.toArray.size).all fun _ => true) = true := by simp
    rw [e]
    have x : Ext W G s.heap G h' := Ext.grow hi fun b o q => hk b o (by
      intro m
      have := List.mem_singleton.mp m
      subst this
      exact Nat.lt_irrefl _ (Heap.lt_size q)) (Heap.get?_push_of_some _ q)
    exact ⟨G, x, GO.same rfl rfl, p _ x⟩
end
end
section
section
variable {W : List Addr} {prog : Program} {w : World} {A : Around} {G h : Heap} {env : Env} {P : Value → Heap → Heap → Prop} {pos : Pos}
theorem T_Call3 {x : Str} {p : Pos} {a b c : Expr} (y : T W prog w A (eval (.Name x p) env) G h (fun f G1 h1 => T W prog w A (eval a env) G1 h1 (fun v G2 h2 => T W prog w A (eval b env) G2 h2 (fun u G3 h3 => T W prog w A (eval c env) G3 h3 (fun z G4 h4 => Kept prog w f h4 ∧ T W prog w A (call f [v, u, z] []) G4 h4 P)))))
    (hs : backTo pos (starEach [a, b, c] env) = [(false, eval a env), (false, eval b env), (false, eval c env)]) : T W prog w A (eval (.Call (.Name x p) [a, b, c] [] pos) env) G h P :=
  T_CallN (y.mono fun f G1 h1 _ z => by
    rw [hs]
    exact T_callWith (first := []) (T_argsP (T_splicedCons (z.mono fun v G2 h2 _ q => T_splicedCons (q.mono fun u G3 h3 _ r => T_splicedCons (r.mono fun t G4 h4 _ k => T_splicedNil k))))))
theorem T_Call4 {x : Str} {p : Pos} {a b c e : Expr} (y : T W prog w A (eval (.Name x p) env) G h (fun f G1 h1 => T W prog w A (eval a env) G1 h1 (fun v G2 h2 => T W prog w A (eval b env) G2 h2 (fun u G3 h3 => T W prog w A (eval c env) G3 h3 (fun z G4 h4 => T W prog w A (eval e env) G4 h4 (fun t G5 h5 => Kept prog w f h5 ∧ T W prog w A (call f [v, u, z, t] []) G5 h5 P))))))
    (hs : backTo pos (starEach [a, b, c, e] env) = [(false, eval a env), (false, eval b env), (false, eval c env), (false, eval e env)]) : T W prog w A (eval (.Call (.Name x p) [a, b, c, e] [] pos) env) G h P :=
  T_CallN (y.mono fun f G1 h1 _ z => by
    rw [hs]
    exact T_callWith (first := []) (T_argsP (T_splicedCons (z.mono fun v G2 h2 _ q => T_splicedCons (q.mono fun u G3 h3 _ r => T_splicedCons (r.mono fun t G4 h4 _ k => T_splicedCons (k.mono fun t5 G5 h5 _ k5 => T_splicedNil k5)))))))
end
theorem bt_len : bootBuiltins "len" = some (.builtin "len") := by kernel_rfl
theorem bt_range : bootBuiltins "range" = some (.type "range") := by kernel_rfl
theorem bt_isinstance : bootBuiltins "isinstance" = some (.builtin "isinstance") := by kernel_rfl
theorem bt_type : bootBuiltins "type" = some (.type "type") := by kernel_rfl
theorem bt_list : bootBuiltins "list" = some (.type "list") := by kernel_rfl
theorem bt_abs : bootBuiltins "abs" = some (.builtin "abs") := by kernel_rfl
theorem bt_sum : bootBuiltins "sum" = some (.builtin "sum") := by kernel_rfl
theorem bt_all : bootBuiltins "all" = some (.builtin "all") := by kernel_rfl
theorem bt_zip : bootBuiltins "zip" = some (.type "zip") := by kernel_rfl
theorem bt_int : bootBuiltins "int" = some (.type "int") := by kernel_rfl
theorem bt_tuple : bootBuiltins "tuple" = some (.type "tuple") := by kernel_rfl
theorem all_cons {α : Type} {Q : α → Prop} {a : α} {l : List α} (h : Q a) (t : ∀ p ∈ l, Q p) : ∀ p ∈ a :: l, Q p := fun p hp => (List.mem_cons.mp hp).elim (fun e => e ▸ h) (t p)
theorem all_nil {α : Type} {Q : α → Prop} : ∀ p ∈ ([] : List α), Q p := fun _ h => nomatch h
theorem hlc_of {lc' lc : List (Str × Value)} {names : List (Str × NameKind)} (h1 : ∀ p ∈ lc', p ∈ lc) (h2 : (lc'.all fun p => names.lookup p.1 == some .free) = true) : ∀ p ∈ lc', p ∈ lc ∧ (p.1, NameKind.free) ∈ names := fun p hp =>
  ⟨h1 p hp, mem_of_lookup (by simpa using List.all_eq_true.mp h2 p hp)⟩
theorem bnd {m a b c : Nat} (h : a ≤ m ∧ m ≤ b) (e : Nat.ble b c = true) : a ≤ m ∧ m ≤ c := ⟨h.1, Nat.le_trans h.2 (Nat.le_of_ble_eq_true e)⟩
theorem bnd2 {m a b c : Nat} (h : a ≤ m ∧ m ≤ b) (e : Nat.ble b c = true) : m ≤ c := Nat.le_trans h.2 (Nat.le_of_ble_eq_true e)
theorem bnd3 {m b c : Nat} (h : m ≤ b) (e : Nat.ble b c = true) : m ≤ c := Nat.le_trans h (Nat.le_of_ble_eq_true e)
end
local macro_rules | `(tactic| k_mem) => `(tactic| with_reducible (repeat (first | exact List.mem_cons_self | refine List.mem_cons_of_mem _ ?_)))
local macro_rules | `(tactic| k_all) => `(tactic| exact kind_of (by assumption) (by kernel_rfl))
local macro_rules | `(tactic| k_upd) => `(tactic| first
  | (with_reducible refine T_local (by assumption) (by k_mem) (by k_all) ?_ (by kernel_rfl)) | (with_reducible refine T_cell (by assumption) (by k_mem) (by k_all) ?_ (by kernel_rfl))
  | (with_reducible refine T_BinOp ?_) | ((with_reducible refine T_Attribute ?_ ?he); (case he => with_unfolding_all rfl)) | (with_reducible refine T_int ?_; intro _) | (with_reducible refine T_bool ?_)
  | ((with_reducible refine T_Compare ?_ ?hm); (case hm => rfl)) | (with_reducible refine T_UnaryOp ?_) | (with_reducible refine T_Subscript ?_) | (with_reducible refine T_IfExp ?_)
  | ((with_reducible refine T_testCompare ?_ ?hm); (case hm => rfl)) | (with_reducible refine T_testNot ?_) | (with_reducible refine T_testAndNil ?_) | (with_reducible refine T_testAnd ?_)
  | (with_reducible refine T_Call0 ?_) | ((with_reducible refine T_Call1 ?_ ?hs); (case hs => rfl)) | ((with_reducible refine T_Call2 ?_ ?hs); (case hs => rfl))
  | ((with_reducible refine T_Call3 ?_ ?hs); (case hs => rfl)) | ((with_reducible refine T_Call4 ?_ ?hs); (case hs => rfl))
  | ((with_reducible refine T_CallM ?_ ?he); (case he => rfl))
  | ((with_reducible refine T_cw0 ?_)) | ((with_reducible refine T_cw1 ?_ ?hs); (case hs => rfl)) | ((with_reducible refine T_cw2 ?_ ?hs); (case hs => rfl)) | ((with_reducible refine T_cwK1 ?_ ?hs); (case hs => rfl)) | ((with_reducible refine T_cwK2 ?_ ?hs ?he); (case hs => rfl); (case he => rfl))
  | (with_reducible refine T_global (by assumption) (by k_all) (by unfold KK; k_is) ?_ (by kernel_rfl))
  | (with_reducible refine T_builtin (by assumption) (by k_all) (by first | exact bt_len | exact bt_range | exact bt_isinstance | exact bt_type | exact bt_list | exact bt_abs | exact bt_sum | exact bt_all | exact bt_zip | exact bt_int | exact bt_tuple) (by kernel_rfl) (by decide) ?_ (by kernel_rfl))
  | (with_reducible refine T_List ?_) | (with_reducible refine T_Tuple ?_) | ((with_reducible refine T_testPlain ?_ ?he); (case he => rfl)))
local macro_rules | `(tactic| k_go) => `(tactic| repeat k_upd)
local macro_rules | `(tactic| k_updF) => `(tactic| repeat (first | (with_reducible refine T_free (by assumption) (by k_mem) (by k_all) ?_ (by kernel_rfl) (by kernel_rfl)) | k_upd))
local macro_rules | `(tactic| k_caughtB) => `(tactic| first | assumption | exact Nat.add_le_add_left (Nat.le_of_ble_eq_true rfl) _ | exact bnd (by assumption) rfl | exact bnd2 (by assumption) rfl | exact bnd3 (by assumption) rfl | exact Nat.le_of_ble_eq_true rfl | omega)
local macro_rules | `(tactic| k_caughtN0) => `(tactic| repeat (first | exact all_nil | (refine all_cons (by k_mem) ?_)))
local macro_rules | `(tactic| k_caught0) => `(tactic| first | exact all_nil | exact fun _ h => h | (refine hlc_of ?_ (by kernel_rfl); first | exact fun _ h => h | (k_caughtN0; done)) | (k_caughtN0; done) | simp)

section
theorem fillD1 : PySem.Challenge.rw_yi0068_01 = PySem.Challenge.rw_yi0068_01 ∧ hd.heap_39 = hd.heap_39 := by
  k_fill
  exact ⟨rfl, rfl⟩
section
variable {W : List Addr} {prog : Program} {w : World} {A : Around} {G h G₀ h₀ : Heap} {P : Value → Heap → Heap → Prop}
/-- a def is called; all its parameters are plain locals -/
theorem fnL {d : Nat} {f : Addr} {args : Args} {oc : Value} {od : Option Addr} {osl : Array (Option Value)} {name qual : Str} {params : Arguments} {body : List Stmt} {scope : Scope} {dV kV doc pm cdv ct : Value} {an : Option Addr} (binds : List (Str × Value))
    (hA : Rm A (d + 1)) (top : TopG w G)
    (bd : ∀ (A' : Around) (env : Env) (h₁ : Heap), Rm A' d → env = envOfC qual scope h.objs.size f cdv → Fm w env G h₁ binds [] → (∀ W', Bs W' h env) → Ext [] G h G h₁ →
      B W prog w A' G₀ h₀ (execs body env) G h₁ (fun fl G' h' => P (retV fl) G' h'))
    (ho : (KK w).lookup f = some ⟨oc, od, .func (fnOf name qual params body scope dV kV doc pm an cdv ct), osl⟩ := by unfold KK; k_is) (hcd : codeIn (KK w) cdv qual = true := by kernel_rfl)
    (hbind : ∀ s : Shared, In G s.heap → BindsTo s (fnOf name qual params body scope dV kV doc pm an cdv ct) args binds := by exact fun s _ => BindsTo.of_eq (by kernel_rfl))
    (hkind : (binds.all fun y => scope.names.lookup y.1 == some .local || scope.names.lookup y.1 == some .cell) = true := by kernel_rfl) (hnd : nodupKeys binds = true := by kernel_rfl)
    (hl2 : (binds.all fun p => scope.names.lookup p.1 == some .local) = true := by kernel_rfl)
    (hco : scope.isCoroutine = false := by rfl) (hgen : scope.isGenerator = false := by rfl) (hk : scope.kind = .function := by rfl) :
    CB W prog w A G₀ h₀ (.call (.ref f) args) G h P := CB_fn hA top ho hcd hbind hkind binds [] hnd (fun _ h => h) hl2 (fun _ h => by cases h) rfl bd hco hgen hk
theorem fnC {d : Nat} {f : Addr} {args : Args} {oc : Value} {od : Option Addr} {osl : Array (Option Value)} {name qual : Str} {params : Arguments} {body : List Stmt} {scope : Scope} {dV kV doc pm cdv ct : Value} {an : Option Addr} (binds l lc : List (Str × Value))
    (hA : Rm A (d + 1)) (top : TopG w G)
    (bd : ∀ (A' : Around) (env : Env) (h₁ : Heap), Rm A' d → env = envOfC qual scope h.objs.size f cdv → Fm w env G h₁ l lc → (∀ W', Bs W' h env) → Ext [] G h G h₁ →
      B W prog w A' G₀ h₀ (execs body env) G h₁ (fun fl G' h' => P (retV fl) G' h'))
    (hl : ∀ p ∈ l, p ∈ binds) (hlc : ∀ p ∈ lc, p ∈ binds)
    (ho : (KK w).lookup f = some ⟨oc, od, .func (fnOf name qual params body scope dV kV doc pm an cdv ct), osl⟩ := by unfold KK; k_is) (hcd : codeIn (KK w) cdv qual = true := by kernel_rfl)
    (hbind : ∀ s : Shared, In G s.heap → BindsTo s (fnOf name qual params body scope dV kV doc pm an cdv ct) args binds := by exact fun s _ => BindsTo.of_eq (by kernel_rfl))
    (hkind : (binds.all fun y => scope.names.lookup y.1 == some .local || scope.names.lookup y.1 == some .cell) = true := by kernel_rfl) (hnd : nodupKeys binds = true := by kernel_rfl)
    (hl2 : (l.all fun p => scope.names.lookup p.1 == some .local) = true := by kernel_rfl) (hlc2 : (lc.all fun p => scope.names.lookup p.1 == some .cell) = true := by kernel_rfl)
    (hco : scope.isCoroutine = false := by rfl) (hgen : scope.isGenerator = false := by rfl) (hk : scope.kind = .function := by rfl) :
    CB W prog w A G₀ h₀ (.call (.ref f) args) G h P := CB_fn hA top ho hcd hbind hkind l lc hnd hl hl2 hlc hlc2 bd hco hgen hk
end

def ringM (q n : Value) : Str → Option Value := fun y => if y = "n" then some n else if y = "q" then some q else none
def polyM (R L : Value) : Str → Option Value := fun y => if y = "coeffs" then some L else if y = "parent" then some R else none
def matM (M D t : Value) : Str → Option Value := fun y => if y = "_transpose" then some t else if y = "_data" then some D else if y = "parent" then some M else none
def modM (R : Value) : Str → Option Value := fun y => if y = "ring" then some R else none
/-- the ring at r: the modulus q, the degree n -/
def RingAt (G : Heap) (r : Addr) (q : Int) (n : Nat) : Prop := ∃ tq tn, Ins G r 59 (ringM (.int q tq) (.int n tn))
/-- a polynomial over the ring at r -/
def PolyAt (G : Heap) (r : Addr) (n : Nat) (v : Value) (c : Nat → Int) : Prop := ∃ a L, v = .ref a ∧ Ins G a 222 (polyM (.ref r) (.ref L)) ∧ IL G (.ref L) n c
theorem RingAt.ext {W : List Addr} {G h G' h' : Heap} {r : Addr} {q : Int} {n : Nat} (x : RingAt G r q n) (e : Ext W G h G' h') : RingAt G' r q n := let ⟨b, c, d⟩ := x; ⟨b, c, d.keeps e.sub⟩
theorem PolyAt.keeps {G G' : Heap} {r : Addr} {n : Nat} {v : Value} {c : Nat → Int} (x : PolyAt G r n v c) (k : ∀ b o, G.get? b = some o → G'.get? b = some o) : PolyAt G' r n v c := let ⟨a, L, e, i, l⟩ := x; ⟨a, L, e, i.keeps k, l.keeps k⟩
theorem PolyAt.ext {W : List Addr} {G h G' h' : Heap} {r : Addr} {n : Nat} {v : Value} {c : Nat → Int} (x : PolyAt G r n v c) (e : Ext W G h G' h') : PolyAt G' r n v c := x.keeps e.sub

section
variable {prog : Program} {w : World} {A : Around} {G h : Heap} {P : Value → Heap → Heap → Prop} {q : Int} {n : Nat} {r : Addr} {d : Nat}

theorem c110 {a : Addr} {L : Value} {x y : Int} {t u : Tok} (hA : Rm A (d + 2)) (top : TopG w G) (rg : RingAt G r q n) (hq : 0 < q) (I : Ins G a 222 (polyM (.ref r) L))
    (p : ∀ tk h', Ext [] G h G h' → P (.int ((x + y) % q) tk) G h') : C [] prog w A (.call (.ref 110) ⟨[.ref a, .int x t, .int y u], []⟩) G h P := by
  refine fnL [("self", .ref a), ("x", .int x t), ("y", .int y u)] hA top fun A' env h1 hA' hE F bs e1 => ?_
  obtain ⟨tq, tn, Ir⟩ := rg
  refine B_cons (B_Return ?_)
  k_upd; k_upd; k_upd; k_upd
  refine T_add fun _ => ?_
  k_upd; k_upd; k_upd
  refine T_attrOwn top (fun i => I.keeps i) (by rfl) (by unfold KK; k_is) ?_
  refine T_attrOwn top (fun i => Ir.keeps i) (by rfl) (by unfold KK; k_is) ?_
  exact T_mod hq fun tk => p tk _ e1
theorem c117 {a : Addr} {L : Value} {x y : Int} {t u : Tok} (hA : Rm A (d + 2)) (top : TopG w G) (rg : RingAt G r q n) (hq : 0 < q) (I : Ins G a 222 (polyM (.ref r) L))
    (p : ∀ tk h', Ext [] G h G h' → P (.int ((x - y) % q) tk) G h') : C [] prog w A (.call (.ref 117) ⟨[.ref a, .int x t, .int y u], []⟩) G h P := by
  refine fnL [("self", .ref a), ("x", .int x t), ("y", .int y u)] hA top fun A' env h1 hA' hE F bs e1 => ?_
  obtain ⟨tq, tn, Ir⟩ := rg
  refine B_cons (B_Return ?_)
  k_upd; k_upd; k_upd; k_upd
  refine T_sub fun _ => ?_
  k_upd; k_upd; k_upd
  refine T_attrOwn top (fun i => I.keeps i) (by rfl) (by unfold KK; k_is) ?_
  refine T_attrOwn top (fun i => Ir.keeps i) (by rfl) (by unfold KK; k_is) ?_
  exact T_mod hq fun tk => p tk _ e1
end
end
section
theorem fillD2 : PySem.Challenge.rw_yi0068_01 = PySem.Challenge.rw_yi0068_01 ∧ hd.heap_39 = hd.heap_39 := by
  k_fill
  exact ⟨rfl, rfl⟩
theorem Ext.keep0 {G h G' h' : Heap} (e : Ext [] G h G' h') : ∀ b o, h.get? b = some o → h'.get? b = some o := fun b o q => e.keep b o (by simp) q
theorem T_ret {W : List Addr} {prog : Program} {w : World} {A : Around} {G h : Heap} {α : Type} {t : Sem α} {P : α → Heap → Heap → Prop} (x : T W prog w A t G h (fun a G' h' => Ext W G h G' h' → P a G' h')) : T W prog w A t G h P := x.mono fun a G' h' e p => p e
section
variable {prog : Program} {w : World} {A : Around} {G h : Heap} {P : Value → Heap → Heap → Prop} {q : Int} {n : Nat} {r : Addr} {d : Nat}
set_option maxHeartbeats 1000000 in
theorem c96 {a L : Addr} {k : Nat} {c : Nat → Int} {m : Str → Option Value} (hA : Rm A (d + 2)) (top : TopG w G) (rg : RingAt G r q n) (hI : Ins h a 222 m) (hm : m "parent" = some (.ref r)) (hc : IL G (.ref L) k c) (hk : k ≤ n) (hn : n ≤ 100)
    (p : ∀ L' G' h', Ext [] G h G' h' → IL G' (.ref L') n (fun i => if i < k then c i else 0) → P (.ref L') G' h') : C [] prog w A (.call (.ref 96) ⟨[.ref a, .ref L], []⟩) G h P := by
  refine fnL [("self", .ref a), ("coefficients", .ref L)] hA top fun A' env h1 hA' hE F bs e1 => ?_
  obtain ⟨tq, tn, Ir⟩ := rg
  have hI1 := hI.keeps e1.keep0
  refine B_cons (B_Assign (by rfl) ?_)
  k_upd
  k_upd
  k_upd
  refine ⟨Kept.builtin, ?_⟩
  refine T_len hc (by k_caughtB) fun t1 => ?_
  refine B_storeL F (bs _).l (by k_all) (by kernel_rfl) fun h2 sb F => ?_
  refine B_intro fun x2 => ?_
  have hI2 := hI.keeps x2.keep0
  refine B_cons (B_If ?_)
  k_upd; k_upd; k_upd; k_upd; k_upd
  refine T_attrOwn top (fun _ => hI2) hm (by unfold KK; k_is) ?_
  refine T_attrOwn top (fun i => Ir.keeps i) (by rfl) (by unfold KK; k_is) ?_
  refine T_gtI (T_truthyB ⟨fun hc => absurd (of_decide_eq_true hc) (by k_caughtB), fun _ => ?_⟩)
  refine B_cons (B_If ?_)
  k_upd; k_upd; k_upd; k_upd; k_upd
  refine T_attrOwn top (fun _ => hI2) hm (by unfold KK; k_is) ?_
  refine T_attrOwn top (fun i => Ir.keeps i) (by rfl) (by unfold KK; k_is) ?_
  refine T_ltI (T_truthyB ⟨fun hlt => ?_, fun hge => ?_⟩)
  · refine B_cons (B_Assign (by rfl) ?_)
    k_upd
    k_upd
    refine T_Comp [] hA'.hd F (compOk_of hE (by kernel_rfl)) (.inl (by k_mem)) (fun _ h => by cases h) ?_
    k_upd; k_upd; k_upd; k_upd; k_upd; k_upd
    refine T_attrOwn top (fun _ => hI2) hm (by unfold KK; k_is) ?_
    refine T_attrOwn top (fun i => Ir.keeps i) (by rfl) (by unfold KK; k_is) ?_
    k_upd
    refine T_sub fun _ => ⟨Kept.type, T_range1 fun v G2 h3 hr e2 => ?_⟩
    refine ⟨_, _, fun i y G => intIs (fun _ => 0) i y, Turns.loc hE (Iter.range hr (by k_caughtB) (by k_caughtB) (by k_caughtB) (by k_caughtB)) (by k_caughtB) (fun _ _ _ _ h _ => h) (by k_mem) ?_, ?_⟩
    · intro i v cenv L' Ga ha hi hv e hE2 F2
      k_upd
      exact ⟨_, rfl⟩
    · rintro b Ga ha ea ⟨b', us, hb, hlb, hlen, hp⟩
      cases hb
      obtain ⟨a', vs, ha', hla, hlen2, hp2⟩ := hc
      cases ha'
      refine T_addLists (hla.keeps ea.sub) hlb (by k_caughtB) fun c' G3 h4 hl3 e3 => ?_
      have F3 := (F.ext (ea.trans e3)).weak (l' := [("l", .int k t1), ("self", .ref a)]) (fun p hp => by simp at hp ⊢; rcases hp with h | h <;> simp [h]) (fun p hp => hp)
      refine B_storeL F3 (bs _).l (by k_all) (by kernel_rfl) fun h5 sb5 F5 => ?_
      refine B_nil (B_nil (B_intro fun x6 => B_cons (B_Return ?_)))
      k_upd
      refine p _ _ _ x6 ⟨c', vs ++ us, rfl, hl3, by simp; omega, fun i x hx => ?_⟩
      rw [List.getElem?_append] at hx
      split at hx
      · obtain ⟨t', ht⟩ := hp2 i x hx
        exact ⟨t', by show x = .int (if i < k then c i else 0) t'; rw [if_pos (by k_caughtB)]; exact ht⟩
      · obtain ⟨t', ht⟩ := hp _ x hx
        exact ⟨t', by show x = .int (if i < k then c i else 0) t'; rw [if_neg (by k_caughtB)]; exact ht⟩
  · refine B_nil (B_nil (B_intro fun x6 => B_cons (B_Return ?_)))
    k_upd
    have hkn : k = n := by have := of_decide_eq_false hge; omega
    subst hkn
    exact p _ _ _ x6 (IL.congr hc fun i hi => (if_pos hi).symm)
end
end
section
theorem fillD3 : PySem.Challenge.rw_yi0068_01 = PySem.Challenge.rw_yi0068_01 ∧ hd.heap_39 = hd.heap_39 := by
  k_fill
  exact ⟨rfl, rfl⟩
section
variable {prog : Program} {w : World} {A : Around} {G h : Heap} {P : Value → Heap → Heap → Prop} {q : Int} {n : Nat} {r : Addr} {d : Nat}
def pad (k : Nat) (c : Nat → Int) : Nat → Int := fun i => if i < k then c i else 0
set_option maxHeartbeats 1000000 in
/-- a polynomial is made -/
theorem c222 {L : Addr} {k : Nat} {c : Nat → Int} (hA : Rm A (d + 5)) (top : TopG w G) (rg : RingAt G r q n) (hc : IL G (.ref L) k c) (hk : k ≤ n) (hn : n ≤ 100)
    (p : ∀ v G' h', Ext [] G h G' h' → PolyAt G' r n v (pad k c) → P v G' h') : C [] prog w A (.call (.ref 222) ⟨[.ref r, .ref L], []⟩) G h P := by
  refine C_make hA top (by unfold KK; k_is) ?_
  intro A1 x dx h1 hA1 e1 dd dx' hx hns od ox
  refine fnL [("self", .ref x), ("parent", .ref r), ("coefficients", .ref L)] hA1 top fun A2 env h2 hA2 hE F bs e2 => ?_
  refine B_cons ?_
  refine B_AssignAttr ?_ (by rfl)
  k_upd
  k_upd
  refine B_setOwn top (e2.keep0 _ _ hx) (hns.at (e2.keep0 _)) (by k_caughtB) od (.inr dd) fun h3 nk3 sb3 in3 => ?_
  have F3 := F.upd (bs []) hns.live sb3 in3
  have hx3 : h3.get? x = some (instObj 222 dx) := sb3.extBut _ _ (fun e => by
    obtain ⟨o, es, ep, q, qd, _⟩ := hns
    rw [← e, hx] at q; cases q; cases qd) (e2.keep0 _ _ hx)
  refine B_cons ?_
  refine B_AssignAttr ?_ (by rfl)
  k_upd
  k_upd
  refine T_methodOwn top (fun _ => ⟨dx, hx3, nk3.ns⟩) (by kernel_rfl) (by unfold KK; k_is) ?_
  k_upd
  k_upd
  refine ⟨Kept.ofK (top.k.keeps in3) (by kernel_rfl), T_C (c96 hA2 top rg ⟨dx, hx3, nk3.ns⟩ (by rfl) hc hk hn fun L' G4 h4 e4 hL => ?_)⟩
  have F4 := F3.ext e4
  k_upd
  refine B_setOwn (top.ext e4) (e4.keep0 _ _ hx3) (nk3.at (e4.keep0 _)) (by k_caughtB) (off_ext e4 od nk3.live) (.inr dd) fun h5 nk5 sb5 in5 => ?_
  refine B_nil ?_
  have hx5 : h5.get? x = some (instObj 222 dx) := sb5.extBut _ _ (fun e => by
    obtain ⟨o, es, ep, q, qd, _⟩ := nk3
    rw [← e, hx3] at q; cases q; cases qd) (e4.keep0 _ _ hx3)
  refine ⟨rfl, off_ext e4 ox ⟨_, hx3⟩, off_ext e4 od nk3.live, _, hx5, nk5.ns, fun G'' sub ex I => p _ _ _ ex ⟨x, L', rfl, I, hL.keeps sub⟩⟩
end
end
section
theorem fillD4 : PySem.Challenge.rw_yi0068_01 = PySem.Challenge.rw_yi0068_01 ∧ hd.heap_39 = hd.heap_39 := by
  k_fill
  exact ⟨rfl, rfl⟩
section
variable {prog : Program} {w : World} {A : Around} {G h : Heap} {env : Env} {P : Value → Heap → Heap → Prop} {q : Int} {n : Nat} {r : Addr} {d : Nat}
theorem T_sp0 {W : List Addr} {pos : Pos} {P : List Value → Heap → Heap → Prop} (p : P [] G h) : T W prog w A (spliced (backTo pos (starEach [] env))) G h P := T_splicedNil p
theorem T_sp1 {W : List Addr} {pos : Pos} {a : Expr} {P : List Value → Heap → Heap → Prop} (z : T W prog w A (eval a env) G h (fun v G2 h2 => P [v] G2 h2)) (hs : starEach [a] env = [(false, eval a env)]) :
    T W prog w A (spliced (backTo pos (starEach [a] env))) G h P := by
  rw [hs]; exact T_splicedCons (z.mono fun v G2 h2 _ q => T_splicedNil q)
theorem T_sp2 {W : List Addr} {pos : Pos} {a b : Expr} {P : List Value → Heap → Heap → Prop} (z : T W prog w A (eval a env) G h (fun v G2 h2 => T W prog w A (eval b env) G2 h2 (fun u => P [v, u]))) (hs : starEach [a, b] env = [(false, eval a env), (false, eval b env)]) :
    T W prog w A (spliced (backTo pos (starEach [a, b] env))) G h P := by
  rw [hs]; exact T_splicedCons (z.mono fun v G2 h2 _ q => T_splicedCons (q.mono fun u G3 h3 _ r => T_splicedNil r))
theorem IL.one {G : Heap} {a : Addr} {i : Int} {t : Tok} (h : LAt G a [.int i t]) : IL G (.ref a) 1 (fun _ => i) := ⟨a, _, rfl, h, rfl, fun j x e => by
  cases j with
  | zero => simp at e; exact ⟨t, e.symm⟩
  | succ j => simp at e⟩
set_option maxHeartbeats 1000000 in
/-- the ring is called with a list -/
theorem c56 {L : Addr} {k : Nat} {c : Nat → Int} (hA : Rm A (d + 6)) (top : TopG w G) (rg : RingAt G r q n) (hc : IL G (.ref L) k c) (hk : k ≤ n) (hn : n ≤ 100)
    (p : ∀ v G' h', Ext [] G h G' h' → PolyAt G' r n v (pad k c) → P v G' h') : C [] prog w A (.call (.ref 56) ⟨[.ref r, .ref L], []⟩) G h P := by
  refine fnL [("self", .ref r), ("coefficients", .ref L)] hA top fun A1 env h1 hA1 hE F bs e1 => ?_
  refine B_cons (B_If ?_)
  k_upd; k_upd; k_upd; k_upd; k_upd
  refine ⟨Kept.builtin, T_isiListInt hc (T_truthyB ⟨fun h => (nomatch h), fun _ => ?_⟩)⟩
  refine B_nil (B_cons (B_If ?_))
  k_upd; k_upd; k_upd; k_upd; k_upd; k_upd
  refine ⟨Kept.builtin, T_isiListList hc (T_truthyB ⟨fun h => (nomatch h), fun _ => ?_⟩)⟩
  refine B_nil (B_cons (B_Return ?_))
  k_upd; k_upd; k_upd; k_upd
  exact ⟨Kept.ofK (top.k.keeps F.into) (by kernel_rfl), T_C (c222 hA1 top rg hc hk hn fun v G' h' e hv => p v G' h' (e1.trans e) hv)⟩
set_option maxHeartbeats 1000000 in
/-- the ring is called with a whole number -/
theorem c56i {i : Int} {t : Tok} (hA : Rm A (d + 6)) (top : TopG w G) (rg : RingAt G r q n) (hn0 : 1 ≤ n) (hn : n ≤ 100)
    (p : ∀ v G' h', Ext [] G h G' h' → PolyAt G' r n v (pad 1 fun _ => i) → P v G' h') : C [] prog w A (.call (.ref 56) ⟨[.ref r, .int i t], []⟩) G h P := by
  refine fnL [("self", .ref r), ("coefficients", .int i t)] hA top fun A1 env h1 hA1 hE F bs e1 => ?_
  refine B_cons (B_If ?_)
  k_upd; k_upd; k_upd; k_upd; k_upd
  refine ⟨Kept.builtin, T_isiIntInt (T_truthyB ⟨fun _ => ?_, fun h => (nomatch h)⟩)⟩
  refine B_cons (B_Return ?_)
  k_upd; k_upd; k_upd; k_upd
  refine T_sp1 ?_ rfl
  k_upd
  refine T_newList (by simp) fun a G2 h2 hl e2 => ?_
  exact ⟨Kept.ofK ((top.ext e2).k.keeps e2.into) (by kernel_rfl), T_C (c222 hA1 (top.ext e2) (rg.ext e2) (IL.one hl) hn0 hn fun v G' h' e hv => p v G' h' (e1.trans (e2.trans e)) hv)⟩
/-- the ring called as a value -/
theorem cR {L : Addr} {k : Nat} {c : Nat → Int} (hA : Rm A (d + 6)) (top : TopG w G) (rg : RingAt G r q n) (hc : IL G (.ref L) k c) (hk : k ≤ n) (hn : n ≤ 100)
    (p : ∀ v G' h', Ext [] G h G' h' → PolyAt G' r n v (pad k c) → P v G' h') : C [] prog w A (.call (.ref r) ⟨[.ref L], []⟩) G h P := by
  obtain ⟨tq, tn, Ir⟩ := id rg
  exact CB_inst top (fun i => Ir.keeps i) (by kernel_rfl) (c56 hA top rg hc hk hn p)
theorem cRi {i : Int} {t : Tok} (hA : Rm A (d + 6)) (top : TopG w G) (rg : RingAt G r q n) (hn0 : 1 ≤ n) (hn : n ≤ 100)
    (p : ∀ v G' h', Ext [] G h G' h' → PolyAt G' r n v (pad 1 fun _ => i) → P v G' h') : C [] prog w A (.call (.ref r) ⟨[.int i t], []⟩) G h P := by
  obtain ⟨tq, tn, Ir⟩ := id rg
  exact CB_inst top (fun i => Ir.keeps i) (by kernel_rfl) (c56i hA top rg hn0 hn p)
set_option maxHeartbeats 1000000 in
/-- zero -/
theorem c42 (hA : Rm A (d + 7)) (top : TopG w G) (rg : RingAt G r q n) (hn0 : 1 ≤ n) (hn : n ≤ 100)
    (p : ∀ v G' h', Ext [] G h G' h' → PolyAt G' r n v (fun _ => 0) → P v G' h') : C [] prog w A (.call (.ref 42) ⟨[.ref r], []⟩) G h P := by
  refine fnL [("self", .ref r)] hA top fun A1 env h1 hA1 hE F bs e1 => ?_
  refine B_cons (B_Return ?_)
  k_upd; k_upd; k_upd
  refine T_sp1 ?_ rfl
  k_upd
  refine T_newList (by simp) fun a G2 h2 hl e2 => ?_
  have rg2 := rg.ext e2
  refine ⟨(let ⟨_, _, Ir⟩ := rg2; (Ir.keeps e2.into).kept), T_C (cR hA1 (top.ext e2) rg2 (IL.one hl) hn0 hn fun v G' h' e hv => p v G' h' (e1.trans (e2.trans e)) ?_)⟩
  obtain ⟨x, L', rfl, I, hl⟩ := hv
  exact ⟨x, L', rfl, I, IL.congr hl fun i _ => by unfold pad; split <;> rfl⟩
end
end
section
theorem fillD5 : PySem.Challenge.rw_yi0068_01 = PySem.Challenge.rw_yi0068_01 ∧ hd.heap_39 = hd.heap_39 := by
  k_fill
  exact ⟨rfl, rfl⟩
theorem off_dead {G h : Heap} {b : Addr} (hi : In G h) (d : Dead h b) : G.get? b = none := by
  cases q : G.get? b with
  | none => rfl
  | some o => have := hi _ _ q; rw [show h.get? b = none from d] at this; cases this
theorem RingAt.keeps {G G' : Heap} {r : Addr} {q : Int} {n : Nat} (x : RingAt G r q n) (k : ∀ b o, G.get? b = some o → G'.get? b = some o) : RingAt G' r q n := let ⟨b, c, d⟩ := x; ⟨b, c, d.keeps k⟩
section
variable {prog : Program} {w : World} {A : Around} {G h : Heap} {env : Env} {P : Value → Heap → Heap → Prop} {q : Int} {n : Nat} {r : Addr} {d : Nat} {a b : Addr} {La Lb : Addr} {ca cb : Nat → Int}
set_option maxHeartbeats 1000000 in
theorem c132 (hA : Rm A (d + 3)) (top : TopG w G) (rg : RingAt G r q n) (hq : 0 < q) (hn : n ≤ 100) (Ia : Ins G a 222 (polyM (.ref r) (.ref La))) (ha : IL G (.ref La) n ca) (Ib : Ins G b 222 (polyM (.ref r) (.ref Lb))) (hb : IL G (.ref Lb) n cb)
    (p : ∀ L' G' h', Ext [] G h G' h' → IL G' (.ref L') n (fun i => (ca i + cb i) % q) → P (.ref L') G' h') : C [] prog w A (.call (.ref 132) ⟨[.ref a, .ref b], []⟩) G h P := by
  refine fnC [("self", .ref a), ("other", .ref b)] [("other", .ref b)] [("self", .ref a)] hA top (fun A1 env h1 hA1 hE F bs e1 => ?_) (by k_caught0) (by k_caught0)
  refine B_cons (B_If ?_)
  k_upd; k_upd; k_upd; k_upd; k_upd; k_upd; k_upd
  refine ⟨Kept.type, T_type (fun i => Ia.keeps i) ⟨Kept.builtin, T_isiOwn top (fun i => Ib.keeps i) (T_truthyB ⟨fun _ => ?_, fun h => (nomatch h)⟩)⟩⟩
  refine B_cons ?_
  refine B_CompZip [("self", .ref a)] hA1.hd F (compOk_of hE (by kernel_rfl)) (by k_mem) (by k_mem) (by decide) (by k_caught0) (bs _).l (by k_all) (by kernel_rfl) (by rw [hE]; rfl) ?_
  k_upd; k_upd; k_upd; k_upd
  refine T_attrOwn top (fun i => Ia.keeps i) (by rfl) (by unfold KK; k_is) ?_
  k_upd; k_upd
  refine T_attrOwn top (fun i => Ib.keeps i) (by rfl) (by unfold KK; k_is) ?_
  obtain ⟨_, vs, hv0, hv, hvn, hvi⟩ := id ha
  cases hv0
  obtain ⟨_, us, hu0, hu, hun, hui⟩ := id hb
  cases hu0
  refine ⟨Kept.type, T_zip hv hu fun z TI TO i1 i2 h2 e2 za ap zd => ⟨z, TI, TO, i1, i2, La, Lb, vs, us, n, fun i y _ => intIs (fun i => (ca i + cb i) % q) i y, rfl, za, ap, fun b hb => ⟨zd b hb, off_dead F.into (zd b hb)⟩, hv, hu, hvn, hun, by omega, fun _ _ _ _ h _ => h, ?_, ?_⟩⟩
  · intro i u v L Ga ha hi hui' hvi' sub F2
    obtain ⟨t1, rfl⟩ := hvi i u hui'
    obtain ⟨t2, rfl⟩ := hui i v hvi'
    generalize hE2 : compEnv _ env L = cenv at F2 ⊢
    rw [hE] at hE2
    replace hE2 := hE2.symm
    k_upd; k_upd
    refine T_methodOwn (top.keeps sub) (fun i => (Ia.keeps sub).keeps i) (by kernel_rfl) (by unfold KK; k_is) ?_
    k_upd; k_upd; k_upd
    exact ⟨Kept.ofK ((top.keeps sub).k.keeps F2.into) (by kernel_rfl), T_C (c110 hA1 (top.keeps sub) (rg.keeps sub) hq (Ia.keeps sub) fun tk h' e => ⟨tk, rfl⟩)⟩
  · intro L' Ga ha ea hl F2
    obtain ⟨L', rfl⟩ : ∃ x, x = L' := ⟨_, rfl⟩
    refine B_nil (B_intro fun x => B_cons (B_Return ?_))
    k_upd
    exact p _ _ _ x hl
end
end
section
theorem fillD6 : PySem.Challenge.rw_yi0068_01 = PySem.Challenge.rw_yi0068_01 ∧ hd.heap_39 = hd.heap_39 := by
  k_fill
  exact ⟨rfl, rfl⟩
section
variable {prog : Program} {w : World} {A : Around} {G h : Heap} {env : Env} {P : Value → Heap → Heap → Prop} {q : Int} {n : Nat} {r : Addr} {d : Nat} {a b : Addr} {La Lb : Addr} {ca cb : Nat → Int}
set_option maxHeartbeats 1000000 in
theorem c132i {i : Int} {t : Tok} (hA : Rm A (d + 3)) (top : TopG w G) (rg : RingAt G r q n) (hq : 0 < q) (hn0 : 1 ≤ n) (hn : n ≤ 100) (Ia : Ins G a 222 (polyM (.ref r) (.ref La))) (ha : IL G (.ref La) n ca)
    (p : ∀ L' G' h', Ext [] G h G' h' → IL G' (.ref L') n (fun j => if j = 0 then (ca 0 + i) % q else ca j) → P (.ref L') G' h') : C [] prog w A (.call (.ref 132) ⟨[.ref a, .int i t], []⟩) G h P := by
  refine fnC [("self", .ref a), ("other", .int i t)] [("other", .int i t)] [("self", .ref a)] hA top (fun A1 env h1 hA1 hE F bs e1 => ?_) (by k_caught0) (by k_caught0)
  refine B_cons (B_If ?_)
  k_upd; k_upd; k_upd; k_upd; k_upd; k_upd; k_upd
  refine ⟨Kept.type, T_type (fun i => Ia.keeps i) ⟨Kept.builtin, T_isiIntOwn top (T_truthyB ⟨fun h => (nomatch h), fun _ => ?_⟩)⟩⟩
  refine B_cons (B_If ?_)
  k_upd; k_upd; k_upd; k_upd; k_upd
  refine ⟨Kept.builtin, T_isiIntInt (T_truthyB ⟨fun _ => ?_, fun h => (nomatch h)⟩)⟩
  refine B_cons ?_
  refine B_Assign (by rfl) ?_
  obtain ⟨_, vs, hv0, hv, hvn, hvi⟩ := id ha
  cases hv0
  k_upd; k_upd; k_upd
  refine T_attrOwn top (fun i => Ia.keeps i) (by rfl) (by unfold KK; k_is) ?_
  refine T_methodList hv ?_
  k_upd
  refine ⟨Kept.builtin, T_copy hv (by k_caughtB) fun c h2 dc hc e2 => ?_⟩
  have F2 := F.ext e2
  have ne := F.ne dc
  refine B_storeL F2 (bs _).l (by k_all) (by kernel_rfl) fun h3 sb3 F3 => ?_
  have hc3 : LAt h3 c vs := let ⟨k, q⟩ := hc; ⟨k, sb3.extBut _ _ (fun e => ne _ (.inl rfl) e.symm) q⟩
  have dc0 : Dead h c := e1.dead dc
  refine B_cons ?_
  refine B_AssignSub ?_ (by rfl)
  k_upd; k_upd
  refine T_methodOwn top (fun i => Ia.keeps i) (by kernel_rfl) (by unfold KK; k_is) ?_
  k_upd; k_upd; k_upd; k_upd
  have h0 : (0 : Nat) < vs.length := by omega
  obtain ⟨t0, e0⟩ := hvi 0 vs[0] (List.getElem?_eq_getElem h0)
  refine T_itemH (fun _ => hc3) (i := 0) rfl (List.getElem?_eq_getElem h0) (by k_caughtB) ?_
  rw [e0]
  k_upd
  refine ⟨Kept.ofK (top.k.keeps F3.into) (by kernel_rfl), T_C (c110 hA1 top rg hq Ia fun tk h4 e4 => ?_)⟩
  have F4 := F3.ext e4
  have hc4 : LAt h4 c vs := let ⟨k, q⟩ := hc3; ⟨k, e4.keep0 _ _ q⟩
  k_upd; k_upd
  refine B_setItem hc4 (i := 0) rfl h0 (by k_caughtB) (off_dead F.into dc) (.inr dc0) fun h5 hc5 sb5 in5 => ?_
  have F5 := F4.upd2 ne sb5 in5
  obtain ⟨o, ho, hf, fz⟩ := hc5.fz
  refine B_freeze ho dc0 (off_dead F.into dc) hf ?_
  have F6 := F5.freeze ho (off_dead F.into dc) hf ne
  refine B_nil (B_nil (B_intro fun x => B_cons (B_Return ?_)))
  k_upd
  refine p _ _ _ x ⟨c, _, rfl, fz G, by simp [hvn], fun j y hy => ?_⟩
  rw [List.getElem?_set] at hy
  by_cases hj : 0 = j
  · subst hj
    rw [if_pos rfl, if_pos h0] at hy
    cases hy
    exact ⟨_, by show _ = Value.int (if (0 : Nat) = 0 then (ca 0 + i) % q else ca 0) _; rw [if_pos rfl]⟩
  · rw [if_neg hj] at hy
    obtain ⟨t, ht⟩ := hvi j y hy
    exact ⟨t, by show _ = Value.int (if j = 0 then (ca 0 + i) % q else ca j) _; rw [if_neg (fun e => hj e.symm)]; exact ht⟩
end
end
section
theorem fillD7 : PySem.Challenge.rw_yi0068_01 = PySem.Challenge.rw_yi0068_01 ∧ hd.heap_39 = hd.heap_39 := by
  k_fill
  exact ⟨rfl, rfl⟩
theorem PolyAt.pad {G : Heap} {r : Addr} {n : Nat} {v : Value} {c : Nat → Int} (x : PolyAt G r n v (pad n c)) : PolyAt G r n v c :=
  let ⟨a, L, e, i, l⟩ := x; ⟨a, L, e, i, IL.congr l fun j hj => if_pos hj⟩
theorem PolyAt.congr {G : Heap} {r : Addr} {n : Nat} {v : Value} {c d : Nat → Int} (x : PolyAt G r n v c) (h : ∀ i, i < n → c i = d i) : PolyAt G r n v d :=
  let ⟨a, L, e, i, l⟩ := x; ⟨a, L, e, i, IL.congr l h⟩
theorem RingAt.kept {prog : Program} {w : World} {G H : Heap} {r : Addr} {q : Int} {n : Nat} (x : RingAt G r q n) (hi : In G H) : Kept prog w (.ref r) H := let ⟨_, _, I⟩ := x; (I.keeps hi).kept
section
variable {prog : Program} {w : World} {A : Around} {G h : Heap} {env : Env} {P : Value → Heap → Heap → Prop} {q : Int} {n : Nat} {r : Addr} {d : Nat} {a b : Addr} {La Lb : Addr} {ca cb : Nat → Int}
set_option maxHeartbeats 1000000 in
theorem c139 (hA : Rm A (d + 8)) (top : TopG w G) (rg : RingAt G r q n) (hq : 0 < q) (hn : n ≤ 100) (Ia : Ins G a 222 (polyM (.ref r) (.ref La))) (ha : IL G (.ref La) n ca) (Ib : Ins G b 222 (polyM (.ref r) (.ref Lb))) (hb : IL G (.ref Lb) n cb)
    (p : ∀ v G' h', Ext [] G h G' h' → PolyAt G' r n v (fun i => (ca i + cb i) % q) → P v G' h') : C [] prog w A (.call (.ref 139) ⟨[.ref a, .ref b], []⟩) G h P := by
  refine fnL [("self", .ref a), ("other", .ref b)] hA top fun A1 env h1 hA1 hE F bs e1 => ?_
  refine B_cons ?_
  refine B_Assign (by rfl) ?_
  k_upd; k_upd
  refine T_methodOwn top (fun i => Ia.keeps i) (by kernel_rfl) (by unfold KK; k_is) ?_
  k_upd; k_upd
  refine ⟨Kept.ofK (top.k.keeps F.into) (by kernel_rfl), T_C (c132 (hA1.mono (e := d + 3) (by k_caughtB)) top rg hq hn Ia ha Ib hb fun L G2 h2 e2 hL => ?_)⟩
  have F2 := F.ext e2
  refine B_storeL F2 (bs _).l (by k_all) (by kernel_rfl) fun h3 sb3 F3 => ?_
  refine B_intro fun x3 => B_cons (B_Return ?_)
  k_upd; k_upd
  refine T_methodAttr (top.ext e2) (fun i => (Ia.keeps e2.sub).keeps i) (by rfl) (by unfold KK; k_is) ?_
  k_upd; k_upd
  exact ⟨(rg.ext e2).kept F3.into, T_C (cR hA1 (top.ext e2) (rg.ext e2) hL (Nat.le_refl _) hn fun v G' h' e hv => p v G' h' (x3.trans e) hv.pad)⟩
set_option maxHeartbeats 1000000 in
theorem c139i {i : Int} {t : Tok} (hA : Rm A (d + 8)) (top : TopG w G) (rg : RingAt G r q n) (hq : 0 < q) (hn0 : 1 ≤ n) (hn : n ≤ 100) (Ia : Ins G a 222 (polyM (.ref r) (.ref La))) (ha : IL G (.ref La) n ca)
    (p : ∀ v G' h', Ext [] G h G' h' → PolyAt G' r n v (fun j => if j = 0 then (ca 0 + i) % q else ca j) → P v G' h') : C [] prog w A (.call (.ref 139) ⟨[.ref a, .int i t], []⟩) G h P := by
  refine fnL [("self", .ref a), ("other", .int i t)] hA top fun A1 env h1 hA1 hE F bs e1 => ?_
  refine B_cons ?_
  refine B_Assign (by rfl) ?_
  k_upd; k_upd
  refine T_methodOwn top (fun i => Ia.keeps i) (by kernel_rfl) (by unfold KK; k_is) ?_
  k_upd; k_upd
  refine ⟨Kept.ofK (top.k.keeps F.into) (by kernel_rfl), T_C (c132i (hA1.mono (e := d + 3) (by k_caughtB)) top rg hq hn0 hn Ia ha fun L G2 h2 e2 hL => ?_)⟩
  have F2 := F.ext e2
  refine B_storeL F2 (bs _).l (by k_all) (by kernel_rfl) fun h3 sb3 F3 => ?_
  refine B_intro fun x3 => B_cons (B_Return ?_)
  k_upd; k_upd
  refine T_methodAttr (top.ext e2) (fun i => (Ia.keeps e2.sub).keeps i) (by rfl) (by unfold KK; k_is) ?_
  k_upd; k_upd
  exact ⟨(rg.ext e2).kept F3.into, T_C (cR hA1 (top.ext e2) (rg.ext e2) hL (Nat.le_refl _) hn fun v G' h' e hv => p v G' h' (x3.trans e) hv.pad)⟩
set_option maxHeartbeats 1000000 in
theorem c146 {i : Int} {t : Tok} (hA : Rm A (d + 9)) (top : TopG w G) (rg : RingAt G r q n) (hq : 0 < q) (hn0 : 1 ≤ n) (hn : n ≤ 100) (Ia : Ins G a 222 (polyM (.ref r) (.ref La))) (ha : IL G (.ref La) n ca)
    (p : ∀ v G' h', Ext [] G h G' h' → PolyAt G' r n v (fun j => if j = 0 then (ca 0 + i) % q else ca j) → P v G' h') : C [] prog w A (.call (.ref 146) ⟨[.ref a, .int i t], []⟩) G h P := by
  refine fnL [("self", .ref a), ("other", .int i t)] hA top fun A1 env h1 hA1 hE F bs e1 => ?_
  refine B_cons (B_Return ?_)
  k_upd; k_upd
  refine T_methodOwn top (fun i => Ia.keeps i) (by kernel_rfl) (by unfold KK; k_is) ?_
  k_upd; k_upd
  exact ⟨Kept.ofK (top.k.keeps F.into) (by kernel_rfl), T_C (c139i hA1 top rg hq hn0 hn Ia ha fun v G' h' e hv => p v G' h' (e1.trans e) hv)⟩
set_option maxHeartbeats 1000000 in
theorem c158 (hA : Rm A (d + 3)) (top : TopG w G) (rg : RingAt G r q n) (hq : 0 < q) (hn : n ≤ 100) (Ia : Ins G a 222 (polyM (.ref r) (.ref La))) (ha : IL G (.ref La) n ca) (Ib : Ins G b 222 (polyM (.ref r) (.ref Lb))) (hb : IL G (.ref Lb) n cb)
    (p : ∀ L' G' h', Ext [] G h G' h' → IL G' (.ref L') n (fun i => (ca i - cb i) % q) → P (.ref L') G' h') : C [] prog w A (.call (.ref 158) ⟨[.ref a, .ref b], []⟩) G h P := by
  refine fnC [("self", .ref a), ("other", .ref b)] [("other", .ref b)] [("self", .ref a)] hA top (fun A1 env h1 hA1 hE F bs e1 => ?_) (by k_caught0) (by k_caught0)
  refine B_cons (B_If ?_)
  k_upd; k_upd; k_upd; k_upd; k_upd; k_upd; k_upd
  refine ⟨Kept.type, T_type (fun i => Ia.keeps i) ⟨Kept.builtin, T_isiOwn top (fun i => Ib.keeps i) (T_truthyB ⟨fun _ => ?_, fun h => (nomatch h)⟩)⟩⟩
  refine B_cons ?_
  refine B_CompZip [("self", .ref a)] hA1.hd F (compOk_of hE (by kernel_rfl)) (by k_mem) (by k_mem) (by decide) (by k_caught0) (bs _).l (by k_all) (by kernel_rfl) (by rw [hE]; rfl) ?_
  k_upd; k_upd; k_upd; k_upd
  refine T_attrOwn top (fun i => Ia.keeps i) (by rfl) (by unfold KK; k_is) ?_
  k_upd; k_upd
  refine T_attrOwn top (fun i => Ib.keeps i) (by rfl) (by unfold KK; k_is) ?_
  obtain ⟨_, vs, hv0, hv, hvn, hvi⟩ := id ha
  cases hv0
  obtain ⟨_, us, hu0, hu, hun, hui⟩ := id hb
  cases hu0
  refine ⟨Kept.type, T_zip hv hu fun z TI TO i1 i2 h2 e2 za ap zd => ⟨z, TI, TO, i1, i2, La, Lb, vs, us, n, fun i y _ => intIs (fun i => (ca i - cb i) % q) i y, rfl, za, ap, fun b hb => ⟨zd b hb, off_dead F.into (zd b hb)⟩, hv, hu, hvn, hun, by omega, fun _ _ _ _ h _ => h, ?_, ?_⟩⟩
  · intro i u v L Ga ha hi hui' hvi' sub F2
    obtain ⟨t1, rfl⟩ := hvi i u hui'
    obtain ⟨t2, rfl⟩ := hui i v hvi'
    generalize hE2 : compEnv _ env L = cenv at F2 ⊢
    rw [hE] at hE2
    replace hE2 := hE2.symm
    k_upd; k_upd
    refine T_methodOwn (top.keeps sub) (fun i => (Ia.keeps sub).keeps i) (by kernel_rfl) (by unfold KK; k_is) ?_
    k_upd; k_upd; k_upd
    exact ⟨Kept.ofK ((top.keeps sub).k.keeps F2.into) (by kernel_rfl), T_C (c117 hA1 (top.keeps sub) (rg.keeps sub) hq (Ia.keeps sub) fun tk h' e => ⟨tk, rfl⟩)⟩
  · intro L' Ga ha ea hl F2
    refine B_nil (B_intro fun x => B_cons (B_Return ?_))
    k_upd
    exact p _ _ _ x hl
set_option maxHeartbeats 1000000 in
theorem c165 (hA : Rm A (d + 8)) (top : TopG w G) (rg : RingAt G r q n) (hq : 0 < q) (hn : n ≤ 100) (Ia : Ins G a 222 (polyM (.ref r) (.ref La))) (ha : IL G (.ref La) n ca) (Ib : Ins G b 222 (polyM (.ref r) (.ref Lb))) (hb : IL G (.ref Lb) n cb)
    (p : ∀ v G' h', Ext [] G h G' h' → PolyAt G' r n v (fun i => (ca i - cb i) % q) → P v G' h') : C [] prog w A (.call (.ref 165) ⟨[.ref a, .ref b], []⟩) G h P := by
  refine fnL [("self", .ref a), ("other", .ref b)] hA top fun A1 env h1 hA1 hE F bs e1 => ?_
  refine B_cons ?_
  refine B_Assign (by rfl) ?_
  k_upd; k_upd
  refine T_methodOwn top (fun i => Ia.keeps i) (by kernel_rfl) (by unfold KK; k_is) ?_
  k_upd; k_upd
  refine ⟨Kept.ofK (top.k.keeps F.into) (by kernel_rfl), T_C (c158 (hA1.mono (e := d + 3) (by k_caughtB)) top rg hq hn Ia ha Ib hb fun L G2 h2 e2 hL => ?_)⟩
  have F2 := F.ext e2
  refine B_storeL F2 (bs _).l (by k_all) (by kernel_rfl) fun h3 sb3 F3 => ?_
  refine B_intro fun x3 => B_cons (B_Return ?_)
  k_upd; k_upd
  refine T_methodAttr (top.ext e2) (fun i => (Ia.keeps e2.sub).keeps i) (by rfl) (by unfold KK; k_is) ?_
  k_upd; k_upd
  exact ⟨(rg.ext e2).kept F3.into, T_C (cR hA1 (top.ext e2) (rg.ext e2) hL (Nat.le_refl _) hn fun v G' h' e hv => p v G' h' (x3.trans e) hv.pad)⟩
set_option maxHeartbeats 1000000 in
theorem c127 (hA : Rm A (d + 8)) (top : TopG w G) (rg : RingAt G r q n) (hq : 0 < q) (hn : n ≤ 100) (Ia : Ins G a 222 (polyM (.ref r) (.ref La))) (ha : IL G (.ref La) n ca)
    (p : ∀ v G' h', Ext [] G h G' h' → PolyAt G' r n v (fun i => (-ca i) % q) → P v G' h') : C [] prog w A (.call (.ref 127) ⟨[.ref a], []⟩) G h P := by
  refine fnC [("self", .ref a)] [] [("self", .ref a)] hA top (fun A1 env h1 hA1 hE F bs e1 => ?_) (by k_caught0) (by k_caught0)
  refine B_cons ?_
  refine B_CompS [("self", .ref a)] hA1.hd F (compOk_of hE (by kernel_rfl)) (.inl (by k_mem)) (by k_caught0) (bs _).l (by k_all) (by kernel_rfl) (by rw [hE]; rfl) ?_
  k_upd; k_upd
  refine T_attrOwn top (fun i => Ia.keeps i) (by rfl) (by unfold KK; k_is) ?_
  refine ⟨_, _, fun i y _ => intIs (fun i => (-ca i) % q) i y, Turns.loc hE (Iter.list ha) (by k_caughtB) (fun _ _ _ _ h _ => h) (by k_mem) ?_, ?_⟩
  · intro i v cenv L Ga hh hi hv e hE2 F2
    obtain ⟨t, rfl⟩ := hv
    k_upd; k_upd; k_upd
    refine T_neg fun _ => ?_
    k_upd; k_upd; k_upd
    refine T_attrOwn (top.ext e) (fun i => (Ia.keeps e.sub).keeps i) (by rfl) (by unfold KK; k_is) ?_
    obtain ⟨tq, tn, Ir⟩ := rg.ext e
    refine T_attrOwn (top.ext e) (fun i => Ir.keeps i) (by rfl) (by unfold KK; k_is) ?_
    exact T_mod hq fun tk => ⟨tk, rfl⟩
  · intro L' Ga hh ea hl F2
    have top2 := top.ext ea
    have rg2 := rg.ext ea
    have Ia2 := Ia.keeps ea.sub
    refine B_intro fun x3 => B_cons (B_Return ?_)
    k_upd; k_upd
    refine T_methodAttr top2 (fun i => Ia2.keeps i) (by rfl) (by unfold KK; k_is) ?_
    k_upd; k_upd
    exact ⟨rg2.kept F2.into, T_C (cR hA1 top2 rg2 hl (Nat.le_refl _) hn fun v G' h' e hv => p v G' h' (x3.trans e) hv.pad)⟩
end
end
section
theorem fillD8 : PySem.Challenge.rw_yi0068_01 = PySem.Challenge.rw_yi0068_01 ∧ hd.heap_39 = hd.heap_39 := by
  k_fill
  exact ⟨rfl, rfl⟩
/-- of a size that may be multiplied -/
def Sm (x : Int) : Prop := Builtin.Int.intBits x ≤ 33554432
theorem Sm.mul {x y : Int} (a : Sm x) (b : Sm y) : IntMulOk x y := IntMulOk.of_le a b (by decide)
/-- a list that changes: at c, n whole numbers f -/
structure Mut (G h : Heap) (c : Addr) (n : Nat) (f : Nat → Int) : Prop where
  at_ : ∃ vs, LAt h c vs ∧ vs.length = n ∧ ∀ i x, vs[i]? = some x → intIs f i x
  off : G.get? c = none
theorem Mut.live {G h : Heap} {c : Addr} {n : Nat} {f : Nat → Int} (x : Mut G h c n f) : ∃ o, h.get? c = some o := let ⟨vs, ⟨k, q⟩, _⟩ := x.at_; ⟨_, q⟩
theorem Mut.keep {G h h' : Heap} {c : Addr} {n : Nat} {f : Nat → Int} (x : Mut G h c n f) (k : ∀ o, h.get? c = some o → h'.get? c = some o) : Mut G h' c n f := ⟨let ⟨vs, ⟨m, q⟩, r⟩ := x.at_; ⟨vs, ⟨m, k _ q⟩, r⟩, x.off⟩
theorem Mut.ext {G h G' h' : Heap} {c : Addr} {n : Nat} {f : Nat → Int} (x : Mut G h c n f) (e : Ext [] G h G' h') : Mut G' h' c n f := ⟨let ⟨vs, ⟨m, q⟩, r⟩ := x.at_; ⟨vs, ⟨m, e.keep0 _ _ q⟩, r⟩, off_ext e x.off x.live⟩
def updF (f : Nat → Int) (k : Nat) (v : Int) : Nat → Int := fun l => if l = k then v else f l
section
variable {W : List Addr} {prog : Program} {w : World} {A : Around} {G h G₀ h₀ : Heap} {env : Env} {a b : Int} {t u : Tok} {n : Nat} {f : Nat → Int} {c : Addr}
theorem T_iadd {P : Value → Heap → Heap → Prop} (p : ∀ tk, P (.int (a + b) tk) G h) : T W prog w A (inplaceOp .Add (.int a t) (.int b u)) G h P := fun s hs hi => by subst hs; exact iadd_int ⟨G, Ext.refl hi, GO.same rfl rfl, p _⟩
theorem T_isub {P : Value → Heap → Heap → Prop} (p : ∀ tk, P (.int (a - b) tk) G h) : T W prog w A (inplaceOp .Sub (.int a t) (.int b u)) G h P := fun s hs hi => by subst hs; exact isub_int ⟨G, Ext.refl hi, GO.same rfl rfl, p _⟩
theorem T_getMut {P : Value → Heap → Heap → Prop} {i : Nat} {k : Int} (m : Mut G h c n f) (hk : k = i) (hi : i < n) (hn : n ≤ 1000) (p : ∀ tk, P (.int (f i) tk) G h) : T W prog w A (getItem (.ref c) (.int k t)) G h P := fun s hs hi' => by
  subst hs
  obtain ⟨vs, hl, rfl, hf⟩ := m.at_
  obtain ⟨tk, e⟩ := hf i _ (List.getElem?_eq_getElem hi)
  exact wpAny_getItem_list (x := .int (f i) tk) hl.isList (by k_caughtB) (by k_caughtB) (by rw [hk]; simp [List.getElem?_eq_getElem hi, e]) ⟨G, Ext.refl hi', GO.refl _, p tk⟩
theorem B_setMut {P : Unit → Heap → Heap → Prop} {i : Nat} {k : Int} (m : Mut G h c n f) (hk : k = i) (hi : i < n) (hn : n ≤ 1000) (hW : c ∈ W ∨ Dead h₀ c)
    (p : ∀ h', Mut G h' c n (updF f i a) → Heap.SameBut c h h' → In G h' → P () G h') : B W prog w A G₀ h₀ (setItem (.ref c) (.int k t) (.int a u)) G h P := by
  obtain ⟨vs, hl, rfl, hf⟩ := m.at_
  refine B_setItem hl hk hi hn m.off hW fun h' hl' sb hin => p h' ⟨⟨_, hl', by simp, fun j y hy => ?_⟩, m.off⟩ sb hin
  rw [List.getElem?_set] at hy
  unfold updF
  by_cases hj : i = j
  · subst hj
    rw [if_pos rfl, if_pos hi] at hy
    cases hy
    exact ⟨_, by show _ = Value.int (if i = i then a else f i) _; rw [if_pos rfl]⟩
  · rw [if_neg hj] at hy
    obtain ⟨t, ht⟩ := hf j y hy
    exact ⟨t, by show _ = Value.int (if j = i then a else f j) _; rw [if_neg (fun e => hj e.symm)]; exact ht⟩
end
/-! ## the product -/
def inner1 (a b : Nat → Int) (i : Nat) : Nat → (Nat → Int) → Nat → Int
  | 0, f => f
  | j + 1, f => updF (inner1 a b i j f) (i + j) (inner1 a b i j f (i + j) + a i * b j)
def outer1 (a b : Nat → Int) (n : Nat) : Nat → (Nat → Int) → Nat → Int
  | 0, f => f
  | i + 1, f => inner1 a b i (n - i) (outer1 a b n i f)
def inner2 (a b : Nat → Int) (n j : Nat) : Nat → (Nat → Int) → Nat → Int
  | 0, f => f
  | k + 1, f => updF (inner2 a b n j k f) k (inner2 a b n j k f k - a (n - j + k) * b j)
def outer2 (a b : Nat → Int) (n : Nat) : Nat → (Nat → Int) → Nat → Int
  | 0, f => f
  | j + 1, f => inner2 a b n (j + 1) (j + 1) (outer2 a b n j f)
def conv (n : Nat) (a b : Nat → Int) : Nat → Int := outer2 a b n (n - 1) (outer1 a b n n fun _ => 0)
section
variable {prog : Program} {w : World} {A : Around} {G h : Heap} {env : Env} {P : Value → Heap → Heap → Prop} {q : Int} {n : Nat} {r : Addr} {d : Nat} {a b : Addr} {La Lb : Addr} {ca cb : Nat → Int}
set_option maxHeartbeats 4000000 in
theorem c122 (hA : Rm A (d + 3)) (top : TopG w G) (rg : RingAt G r q n) (hq : 0 < q) (hn0 : 1 ≤ n) (hn : n ≤ 100) (Ia : Ins G a 222 (polyM (.ref r) (.ref La))) (ha : IL G (.ref La) n ca) (Ib : Ins G b 222 (polyM (.ref r) (.ref Lb))) (hb : IL G (.ref Lb) n cb)
    (sa : ∀ i, i < n → Sm (ca i)) (sb : ∀ i, i < n → Sm (cb i))
    (p : ∀ L' G' h', Ext [] G h G' h' → IL G' (.ref L') n (fun i => conv n ca cb i % q) → P (.ref L') G' h') : C [] prog w A (.call (.ref 122) ⟨[.ref a, .ref b], []⟩) G h P := by
  refine fnC [("self", .ref a), ("other", .ref b)] [("other", .ref b)] [("self", .ref a)] hA top (fun A1 env h1 hA1 hE F bs e1 => ?_) (by k_caught0) (by k_caught0)
  obtain ⟨tq, tn, Ir⟩ := id rg
  -- n, a, b
  refine B_cons ?_
  refine B_Assign (by rfl) ?_
  k_upd; k_upd; k_upd
  refine T_attrOwn top (fun i => Ia.keeps i) (by rfl) (by unfold KK; k_is) ?_
  refine T_attrOwn top (fun i => Ir.keeps i) (by rfl) (by unfold KK; k_is) ?_
  refine B_storeL F (bs _).l (by k_all) (by kernel_rfl) fun h2 _ F => ?_
  refine B_cons ?_
  refine B_Assign (by rfl) ?_
  k_upd; k_upd
  refine T_attrOwn top (fun i => Ia.keeps i) (by rfl) (by unfold KK; k_is) ?_
  refine B_storeL F (bs _).l (by k_all) (by kernel_rfl) fun h3 _ F => ?_
  refine B_cons ?_
  refine B_Assign (by rfl) ?_
  k_upd; k_upd
  refine T_attrOwn top (fun i => Ib.keeps i) (by rfl) (by unfold KK; k_is) ?_
  refine B_storeL F (bs _).l (by k_all) (by kernel_rfl) fun h4 _ F => ?_
  -- new_coeffs
  refine B_intro fun x4 => B_cons ?_
  have nz := F
  refine B_CompMut [] hA1.hd F (compOk_of hE (by kernel_rfl)) (.inl (by k_mem)) (fun _ h => by cases h) (bs _).l (by k_all) (by kernel_rfl) (by rw [hE]; rfl) ?_
  k_upd; k_upd; k_upd
  refine ⟨Kept.type, T_range1 fun v G2 h5 hr e2 => ⟨_, _, fun i y _ => intIs (fun _ => 0) i y, Turns.loc hE (Iter.range hr (by k_caughtB) (by k_caughtB) (by k_caughtB) (by k_caughtB)) (by k_caughtB) (fun _ _ _ _ h _ => h) (by k_mem) ?_, ?_⟩⟩
  · intro i v cenv L' Ga ha hi hv e hE2 F2
    k_upd
    exact ⟨_, rfl⟩
  intro c G3 h6 ys dc oc hl hlen hF0 e3 F6
  have m6 : Mut G3 h6 c n (fun _ => 0) := ⟨⟨ys, hl, by rw [hlen]; omega, hF0⟩, oc⟩
  have dc0 : Dead h c := x4.dead dc
  have ne := nz.ne dc
  have neL : c ≠ env.locals := fun e => ne _ (.inl rfl) e.symm
  -- the first two loops
  refine B_cons ?_
  refine B_ForK [env.locals, c] hA1.hd ?_
  k_upd; k_upd; k_upd
  refine ⟨Kept.type, T_range1 fun v G7 h7 hr7 e7 => ?_⟩
  have F7 := F6.ext e7
  refine ⟨_, _, fun i Gx hx => Fm w env Gx hx [("new_coeffs", .ref c), ("b", .ref Lb), ("a", .ref La), ("n", .int n tn), ("other", .ref b)] [("self", .ref a)] ∧ Mut Gx hx c n (outer1 ca cb n i fun _ => 0), Iter.range hr7 (by k_caughtB) (by k_caughtB) (by k_caughtB) (by k_caughtB), ⟨F7, m6.ext e7⟩, ?_, ?_, ?_, ?_⟩
  · intro x hx
    simp at hx
    rcases hx with rfl | rfl
    · exact ⟨F7.live (.inl rfl), (bs []).l⟩
    · exact ⟨(m6.ext e7).live, .inr dc0⟩
  · rintro i Gx hx hy ⟨Fx, mx⟩ k hin
    exact ⟨Fx.other (fun b o hb q => k b o (F7.live hb) q) hin, mx.keep fun o q => k c o (m6.ext e7).live q⟩
  · rintro i Gx hx v hi hv ⟨Fx, mx⟩ sub QK hQ
    obtain ⟨t, rfl⟩ := hv
    have subG : ∀ b o, G.get? b = some o → Gx.get? b = some o := fun b o q => sub _ _ (e7.sub _ _ (e3.sub _ _ q))
    refine B_storeL Fx (.inl (by simp)) (by k_all) (by kernel_rfl) fun h8 sb8 F8 => ?_
    have m8 := mx.keep (h' := h8) fun o q => sb8.extBut _ _ neL q
    refine B_cons ?_
    refine B_ForK [env.locals, c] hA1.hd ?_
    k_upd; k_upd; k_upd; k_upd; k_upd; k_upd
    refine T_sub fun _ => ⟨Kept.type, T_range2 fun v G9 h9 hr9 e9 => ?_⟩
    have F9 := F8.ext e9
    have m9 := m8.ext e9
    refine ⟨_, _, fun j Gy hy => Fm w env Gy hy [("i", .int (0 + (i : Int)) t), ("new_coeffs", .ref c), ("b", .ref Lb), ("a", .ref La), ("n", .int n tn), ("other", .ref b)] [("self", .ref a)] ∧ Mut Gy hy c n (inner1 ca cb i j (outer1 ca cb n i fun _ => 0)), Iter.range hr9 (by k_caughtB) (by k_caughtB) (by k_caughtB) (by k_caughtB), ⟨F9, m9⟩, ?_, ?_, ?_, ?_⟩
    · intro x hx
      simp at hx
      rcases hx with rfl | rfl
      · exact ⟨F9.live (.inl rfl), .inl (by simp)⟩
      · exact ⟨m9.live, .inl (by simp)⟩
    · rintro j Gy hy hz ⟨Fy, my⟩ k hin
      exact ⟨Fy.other (fun b o hb q => k b o (F9.live hb) q) hin, my.keep fun o q => k c o m9.live q⟩
    · rintro j Gy hy v hj hv ⟨Fy, my⟩ sub9 QK hQ
      obtain ⟨t', rfl⟩ := hv
      have subG' : ∀ b o, G.get? b = some o → Gy.get? b = some o := fun b o q => sub9 _ _ (e9.sub _ _ (subG _ _ q))
      have hi' : i < n := by omega
      have hj' : j < n - i := by omega
      refine B_storeL Fy (.inl (by simp)) (by k_all) (by kernel_rfl) fun h10 sb10 F10 => ?_
      have m10 := my.keep (h' := h10) fun o q => sb10.extBut _ _ neL q
      refine B_cons ?_
      refine B_AugSub ?_ (by intro _ _ _; rfl)
      k_upd; k_upd; k_upd; k_upd
      refine T_add fun _ => ?_
      refine T_getMut m10 (i := i + j) (by k_caughtB) (by k_caughtB) (by k_caughtB) fun _ => ?_
      k_upd; k_upd; k_upd; k_upd
      refine T_item (ha.keeps subG') (i := i) (by k_caughtB) hi' (by k_caughtB) fun x hx => ?_
      obtain ⟨_, rfl⟩ := hx
      k_upd; k_upd; k_upd
      refine T_item (hb.keeps subG') (i := j) (by k_caughtB) (by k_caughtB) (by k_caughtB) fun x hx => ?_
      obtain ⟨_, rfl⟩ := hx
      refine T_mul (Sm.mul (sa _ hi') (sb _ (by k_caughtB))) fun _ => ?_
      refine T_iadd fun _ => ?_
      refine B_setMut m10 (i := i + j) (by k_caughtB) (by k_caughtB) (by k_caughtB) (.inl (by simp)) fun h11 m11 sb11 in11 => ?_
      exact B_nil (hQ _ _ ⟨(F10.upd2 ne sb11 in11).weak (by k_caught0) (by k_caught0), m11⟩)
    · rintro Gy hy ⟨Fy, my⟩ sub9
      refine B_nil (hQ _ _ ⟨Fy.weak (by k_caught0) (by k_caught0), ?_⟩)
      have e : ((n : Int) - (0 + (i : Int)) - 0).toNat = n - i := by omega
      rw [e] at my
      exact my
  rintro Gx hx ⟨Fx, mx⟩ subx
  have en : ((n : Int) - 0).toNat = n := by omega
  rw [en] at mx
  generalize hf1 : outer1 ca cb n n (fun _ => 0) = f1 at mx
  have subG1 : ∀ b o, G.get? b = some o → Gx.get? b = some o := fun b o q => subx _ _ (e7.sub _ _ (e3.sub _ _ q))
  refine B_cons ?_
  refine B_ForK [env.locals, c] hA1.hd ?_
  k_upd; k_upd; k_upd; k_upd
  refine ⟨Kept.type, T_range2 fun v G7 h7 hr7 e7 => ?_⟩
  have F7 := Fx.ext e7
  have m7 := mx.ext e7
  refine ⟨_, _, fun j Gy hy => Fm w env Gy hy [("new_coeffs", .ref c), ("b", .ref Lb), ("a", .ref La), ("n", .int n tn), ("other", .ref b)] [("self", .ref a)] ∧ Mut Gy hy c n (outer2 ca cb n j f1), Iter.range hr7 (by k_caughtB) (by k_caughtB) (by k_caughtB) (by k_caughtB), ⟨F7, m7⟩, ?_, ?_, ?_, ?_⟩
  · intro x hx
    simp at hx
    rcases hx with rfl | rfl
    · exact ⟨F7.live (.inl rfl), (bs []).l⟩
    · exact ⟨m7.live, .inr dc0⟩
  · rintro i Gy hy hz ⟨Fy, my⟩ k hin
    exact ⟨Fy.other (fun b o hb q => k b o (F7.live hb) q) hin, my.keep fun o q => k c o m7.live q⟩
  · rintro j Gy hy v hj hv ⟨Fy, my⟩ sub QK hQ
    obtain ⟨t, rfl⟩ := hv
    have subG : ∀ b o, G.get? b = some o → Gy.get? b = some o := fun b o q => sub _ _ (e7.sub _ _ (subG1 _ _ q))
    refine B_storeL Fy (.inl (by simp)) (by k_all) (by kernel_rfl) fun h8 sb8 F8 => ?_
    have m8 := my.keep (h' := h8) fun o q => sb8.extBut _ _ neL q
    refine B_cons ?_
    refine B_ForK [env.locals, c] hA1.hd ?_
    k_upd; k_upd; k_upd; k_upd; k_upd
    refine T_sub fun _ => ?_
    k_upd
    refine ⟨Kept.type, T_range2 fun v G9 h9 hr9 e9 => ?_⟩
    have F9 := F8.ext e9
    have m9 := m8.ext e9
    refine ⟨_, _, fun k Gz hz => Fm w env Gz hz [("j", .int (1 + (j : Int)) t), ("new_coeffs", .ref c), ("b", .ref Lb), ("a", .ref La), ("n", .int n tn), ("other", .ref b)] [("self", .ref a)] ∧ Mut Gz hz c n (inner2 ca cb n (j + 1) k (outer2 ca cb n j f1)), Iter.range hr9 (by k_caughtB) (by k_caughtB) (by k_caughtB) (by k_caughtB), ⟨F9, m9⟩, ?_, ?_, ?_, ?_⟩
    · intro x hx
      simp at hx
      rcases hx with rfl | rfl
      · exact ⟨F9.live (.inl rfl), .inl (by simp)⟩
      · exact ⟨m9.live, .inl (by simp)⟩
    · rintro k Gz hz hz' ⟨Fz, mz⟩ kk hin
      exact ⟨Fz.other (fun b o hb q => kk b o (F9.live hb) q) hin, mz.keep fun o q => kk c o m9.live q⟩
    · rintro k Gz hz v hk hv ⟨Fz, mz⟩ sub9 QK hQ
      obtain ⟨t', rfl⟩ := hv
      have subG' : ∀ b o, G.get? b = some o → Gz.get? b = some o := fun b o q => sub9 _ _ (e9.sub _ _ (subG _ _ q))
      have hj' : j + 1 < n := by omega
      have hk' : k < j + 1 := by omega
      refine B_storeL Fz (.inl (by simp)) (by k_all) (by kernel_rfl) fun h10 sb10 F10 => ?_
      have m10 := mz.keep (h' := h10) fun o q => sb10.extBut _ _ neL q
      refine B_cons ?_
      refine B_AugSub ?_ (by intro _ _ _; rfl)
      k_upd; k_upd; k_upd; k_upd; k_upd
      refine T_add fun _ => ?_
      k_upd
      refine T_sub fun _ => ?_
      refine T_getMut m10 (i := k) (by k_caughtB) (by k_caughtB) (by k_caughtB) fun _ => ?_
      k_upd; k_upd; k_upd; k_upd
      refine T_item (ha.keeps subG') (i := n - (j + 1) + k) (by k_caughtB) (by k_caughtB) (by k_caughtB) fun x hx => ?_
      obtain ⟨_, rfl⟩ := hx
      k_upd; k_upd; k_upd
      refine T_item (hb.keeps subG') (i := j + 1) (by k_caughtB) (by k_caughtB) (by k_caughtB) fun x hx => ?_
      obtain ⟨_, rfl⟩ := hx
      refine T_mul (Sm.mul (sa _ (by k_caughtB)) (sb _ (by k_caughtB))) fun _ => ?_
      refine T_isub fun _ => ?_
      refine B_setMut m10 (i := k) (by k_caughtB) (by k_caughtB) (by k_caughtB) (.inl (by simp)) fun h11 m11 sb11 in11 => ?_
      exact B_nil (hQ _ _ ⟨(F10.upd2 ne sb11 in11).weak (by k_caught0) (by k_caught0), m11⟩)
    · rintro Gz hz ⟨Fz, mz⟩ sub9
      refine B_nil (hQ _ _ ⟨Fz.weak (by k_caught0) (by k_caught0), ?_⟩)
      have e : ((n : Int) - ((n : Int) - (1 + (j : Int)))).toNat = j + 1 := by omega
      rw [e] at mz
      exact mz
  rintro Gy hy ⟨Fy, my⟩ suby
  have en : ((n : Int) - 1).toNat = n - 1 := by omega
  rw [en] at my
  -- the end
  obtain ⟨vs, hvs, hvn, hvf⟩ := my.at_
  obtain ⟨o, ho, hf, fz⟩ := hvs.fz
  refine B_freeze ho dc0 my.off hf ?_
  have F8 := Fy.freeze ho my.off hf ne
  have sub8 := sub_addAt hf my.off
  have subG : ∀ b o', G.get? b = some o' → (addAt Gy c o).get? b = some o' := fun b o' q => sub8 _ _ (suby _ _ (e7.sub _ _ (subG1 _ _ q)))
  have hL : IL (addAt Gy c o) (.ref c) n (outer2 ca cb n (n - 1) f1) := ⟨c, vs, rfl, fz _, hvn, hvf⟩
  refine B_intro fun x9 => B_cons (B_Return ?_)
  refine T_Comp [("self", .ref a)] hA1.hd F8 (compOk_of hE (by kernel_rfl)) (.inl (by k_mem)) (by k_caught0) ?_
  k_upd
  refine ⟨_, _, fun i y _ => intIs (fun i => conv n ca cb i % q) i y, Turns.loc hE (Iter.list hL) (by k_caughtB) (fun _ _ _ _ h _ => h) (by k_mem) ?_, fun L' Ga ha e hl => p _ _ _ (x9.trans e) hl⟩
  intro i v cenv L Ga hh hi hv e hE2 F2
  obtain ⟨t, rfl⟩ := hv
  have top2 := (top.keeps subG).ext e
  k_upd; k_upd; k_upd; k_upd; k_upd
  refine T_attrOwn top2 (fun i => ((Ia.keeps subG).keeps e.sub).keeps i) (by rfl) (by unfold KK; k_is) ?_
  refine T_attrOwn top2 (fun i => ((Ir.keeps subG).keeps e.sub).keeps i) (by rfl) (by unfold KK; k_is) ?_
  refine T_mod hq fun tk => ⟨tk, ?_⟩
  unfold conv
  rw [hf1]
end
end
section
theorem fillD9 : PySem.Challenge.rw_yi0068_01 = PySem.Challenge.rw_yi0068_01 ∧ hd.heap_39 = hd.heap_39 := by
  k_fill
  exact ⟨rfl, rfl⟩
theorem Ins.typeOf {M : Model} {H : Heap} {x C : Addr} {m : Str → Option Value} (y : Ins H x C m) : Looks M H (typeOf (.ref x)) (.ref C) := let ⟨_, _, I, _⟩ := y.at_; I.type
section
variable {prog : Program} {w : World} {A : Around} {G h : Heap} {env : Env} {P : Value → Heap → Heap → Prop} {q : Int} {n : Nat} {r : Addr} {d : Nat} {a b : Addr} {La Lb : Addr} {ca cb : Nat → Int} {l lc : List (Str × Value)}
set_option maxHeartbeats 1000000 in
theorem c184 (hA : Rm A (d + 8)) (top : TopG w G) (rg : RingAt G r q n) (hq : 0 < q) (hn0 : 1 ≤ n) (hn : n ≤ 100) (Ia : Ins G a 222 (polyM (.ref r) (.ref La))) (ha : IL G (.ref La) n ca) (Ib : Ins G b 222 (polyM (.ref r) (.ref Lb))) (hb : IL G (.ref Lb) n cb)
    (sa : ∀ i, i < n → Sm (ca i)) (sb : ∀ i, i < n → Sm (cb i))
    (p : ∀ v G' h', Ext [] G h G' h' → PolyAt G' r n v (fun i => conv n ca cb i % q) → P v G' h') : C [] prog w A (.call (.ref 184) ⟨[.ref a, .ref b], []⟩) G h P := by
  refine fnC [("self", .ref a), ("other", .ref b)] [] [("self", .ref a), ("other", .ref b)] hA top (fun A1 env h1 hA1 hE F bs e1 => ?_) (by k_caught0) (by k_caught0)
  refine B_cons (B_If ?_)
  k_upd; k_upd; k_upd; k_upd; k_upd; k_upd; k_upd
  refine ⟨Kept.type, T_type (fun i => Ia.keeps i) ⟨Kept.builtin, T_isiOwn top (fun i => Ib.keeps i) (T_truthyB ⟨fun _ => ?_, fun h => (nomatch h)⟩)⟩⟩
  refine B_cons ?_
  refine B_Assign (by rfl) ?_
  k_upd; k_upd
  refine T_methodOwn top (fun i => Ia.keeps i) (by kernel_rfl) (by unfold KK; k_is) ?_
  k_upd; k_upd
  refine ⟨Kept.ofK (top.k.keeps F.into) (by kernel_rfl), T_C (c122 (hA1.mono (e := d + 3) (by k_caughtB)) top rg hq hn0 hn Ia ha Ib hb sa sb fun L G2 h2 e2 hL => ?_)⟩
  have F2 := F.ext e2
  refine B_storeL F2 (bs _).l (by k_all) (by kernel_rfl) fun h3 sb3 F3 => ?_
  refine B_nil (B_intro fun x3 => B_cons (B_Return ?_))
  k_upd; k_upd
  refine T_methodAttr (top.ext e2) (fun i => (Ia.keeps e2.sub).keeps i) (by rfl) (by unfold KK; k_is) ?_
  k_upd; k_upd
  exact ⟨(rg.ext e2).kept F3.into, T_C (cR hA1 (top.ext e2) (rg.ext e2) hL (Nat.le_refl _) hn fun v G' h' e hv => p v G' h' (x3.trans e) hv.pad)⟩
set_option maxHeartbeats 1000000 in
theorem c212 (hA : Rm A (d + 8)) (top : TopG w G) (Ia : Ins G a 222 (polyM (.ref r) (.ref La))) (ha : IL G (.ref La) n ca) (Ib : Ins G b 222 (polyM (.ref r) (.ref Lb))) (hb : IL G (.ref Lb) n cb)
    (p : ∀ h', Ext [] G h G h' → P (.bool (decide (rng n ca = rng n cb))) G h') : C [] prog w A (.call (.ref 212) ⟨[.ref a, .ref b], []⟩) G h P := by
  refine fnL [("self", .ref a), ("other", .ref b)] hA top fun A1 env h1 hA1 hE F bs e1 => ?_
  refine B_cons (B_If ?_)
  k_upd; k_upd; k_upd; k_upd; k_upd; k_upd; k_upd
  refine ⟨Kept.type, T_type (fun i => Ia.keeps i) ⟨Kept.builtin, T_isiOwn top (fun i => Ib.keeps i) (T_truthyB ⟨fun _ => ?_, fun h => (nomatch h)⟩)⟩⟩
  refine B_cons (B_Return ?_)
  k_upd; k_upd; k_upd
  refine T_attrOwn top (fun i => Ia.keeps i) (by rfl) (by unfold KK; k_is) ?_
  k_upd; k_upd
  refine T_attrOwn top (fun i => Ib.keeps i) (by rfl) (by unfold KK; k_is) ?_
  exact T_eqInts ha hb (by have := hA1.units; unfold cLine; omega) (p _ e1)
/-! ### the operators on polynomials -/
theorem T_polyAdd {u v : Value} (hA : Rm A (d + 8)) (F : Fm w env G h l lc) (rg : RingAt G r q n) (hq : 0 < q) (hn : n ≤ 100) (ha : PolyAt G r n u ca) (hb : PolyAt G r n v cb)
    (p : ∀ v G' h', Ext [] G h G' h' → PolyAt G' r n v (fun i => (ca i + cb i) % q) → P v G' h') : T [] prog w A (binaryOp .Add u v) G h P := by
  obtain ⟨a, La, rfl, Ia, ha⟩ := ha
  obtain ⟨b, Lb, rfl, Ib, hb⟩ := hb
  refine T_binOwn F (fun i => Ia.keeps i) (fun i => (Ib.keeps i).typeOf) (by kernel_rfl) (T_C (c139 hA F.top rg hq hn Ia ha Ib hb fun v G' h' e hv => ⟨?_, p v G' h' e hv⟩))
  obtain ⟨_, _, rfl, _⟩ := hv; intro h; cases h
theorem T_polySub {u v : Value} (hA : Rm A (d + 8)) (F : Fm w env G h l lc) (rg : RingAt G r q n) (hq : 0 < q) (hn : n ≤ 100) (ha : PolyAt G r n u ca) (hb : PolyAt G r n v cb)
    (p : ∀ v G' h', Ext [] G h G' h' → PolyAt G' r n v (fun i => (ca i - cb i) % q) → P v G' h') : T [] prog w A (binaryOp .Sub u v) G h P := by
  obtain ⟨a, La, rfl, Ia, ha⟩ := ha
  obtain ⟨b, Lb, rfl, Ib, hb⟩ := hb
  refine T_binOwn F (fun i => Ia.keeps i) (fun i => (Ib.keeps i).typeOf) (by kernel_rfl) (T_C (c165 hA F.top rg hq hn Ia ha Ib hb fun v G' h' e hv => ⟨?_, p v G' h' e hv⟩))
  obtain ⟨_, _, rfl, _⟩ := hv; intro h; cases h
theorem T_polyMul {u v : Value} (hA : Rm A (d + 8)) (F : Fm w env G h l lc) (rg : RingAt G r q n) (hq : 0 < q) (hn0 : 1 ≤ n) (hn : n ≤ 100) (ha : PolyAt G r n u ca) (hb : PolyAt G r n v cb) (sa : ∀ i, i < n → Sm (ca i)) (sb : ∀ i, i < n → Sm (cb i))
    (p : ∀ v G' h', Ext [] G h G' h' → PolyAt G' r n v (fun i => conv n ca cb i % q) → P v G' h') : T [] prog w A (binaryOp .Mult u v) G h P := by
  obtain ⟨a, La, rfl, Ia, ha⟩ := ha
  obtain ⟨b, Lb, rfl, Ib, hb⟩ := hb
  refine T_binOwn F (fun i => Ia.keeps i) (fun i => (Ib.keeps i).typeOf) (by kernel_rfl) (T_C (c184 hA F.top rg hq hn0 hn Ia ha Ib hb sa sb fun v G' h' e hv => ⟨?_, p v G' h' e hv⟩))
  obtain ⟨_, _, rfl, _⟩ := hv; intro h; cases h
theorem T_polyEq {u v : Value} (hA : Rm A (d + 8)) (F : Fm w env G h l lc) (ha : PolyAt G r n u ca) (hb : PolyAt G r n v cb)
    (p : ∀ h', Ext [] G h G h' → P (.bool (decide (rng n ca = rng n cb))) G h') : T [] prog w A (compareOp .Eq u v) G h P := by
  obtain ⟨a, La, rfl, Ia, ha⟩ := ha
  obtain ⟨b, Lb, rfl, Ib, hb⟩ := hb
  exact T_cmpOwn hA F (fun i => Ia.keeps i) (fun i => (Ib.keeps i).typeOf) (by kernel_rfl) (by kernel_rfl) (T_C (c212 hA F.top Ia ha Ib hb fun h' e => ⟨(by intro h; cases h), p h' e⟩))
theorem T_polyNeg {u : Value} (hA : Rm A (d + 8)) (F : Fm w env G h l lc) (rg : RingAt G r q n) (hq : 0 < q) (hn : n ≤ 100) (ha : PolyAt G r n u ca)
    (p : ∀ v G' h', Ext [] G h G' h' → PolyAt G' r n v (fun i => (-ca i) % q) → P v G' h') : T [] prog w A (unaryOp .USub u) G h P := fun s hs hi => by
  obtain ⟨a, La, rfl, Ia, ha⟩ := ha
  have z := (T_C (prog := prog) (c127 hA F.top rg hq hn Ia ha p)) s hs hi
  subst hs
  obtain ⟨dx, od, I, _, hl⟩ := (Ia.keeps hi).at_
  obtain ⟨H, _, fr, X⟩ := F.fr
  exact ksp_neg fr X I (by kernel_rfl) (by kernel_rfl) z
theorem T_coeffs {u : Value} {e : Bool} (top : TopG w G) (ha : PolyAt G r n u ca) (p : ∀ L, IL G (.ref L) n ca → P (.ref L) G h) : T [] prog w A (getAttr u "coeffs" e) G h P := by
  obtain ⟨a, La, rfl, Ia, ha⟩ := ha
  exact T_attrOwn top (fun i => Ia.keeps i) (by rfl) (by unfold KK; k_is) (p _ ha)
end
end
section
theorem fillD10 : PySem.Challenge.rw_yi0068_01 = PySem.Challenge.rw_yi0068_01 ∧ hd.heap_39 = hd.heap_39 := by
  k_fill
  exact ⟨rfl, rfl⟩
section
variable {prog : Program} {w : World} {A : Around} {G h : Heap} {env : Env} {P : Value → Heap → Heap → Prop} {q : Int} {n : Nat} {r : Addr} {d : Nat} {a b : Addr} {La Lb : Addr} {ca cb : Nat → Int} {l lc : List (Str × Value)}
theorem T_polyRadd {t : Tok} {u : Value} (hA : Rm A (d + 9)) (top : TopG w G) (rg : RingAt G r q n) (hq : 0 < q) (hn0 : 1 ≤ n) (hn : n ≤ 100) (ha : PolyAt G r n u ca) (hr : ∀ j, j < n → ca j % q = ca j)
    (p : ∀ v G' h', Ext [] G h G' h' → PolyAt G' r n v (fun i => (0 + ca i) % q) → P v G' h') : T [] prog w A (binaryOp .Add (.int 0 t) u) G h P := by
  obtain ⟨a, La, rfl, Ia, ha⟩ := ha
  refine T_raddOwn (K := 222) (f := 146) (fa := 139) top (fun i => Ia.keeps i) (by kernel_rfl) (by kernel_rfl) (T_C (c146 hA top rg hq hn0 hn Ia ha fun v G' h' e hv => ⟨?_, p v G' h' e (hv.congr fun i hi => ?_)⟩))
  · obtain ⟨_, _, rfl, _⟩ := hv; intro h; cases h
  · have := hr i hi
    by_cases z : i = 0
    · subst z; simp
    · simp [z, this]
/-- sums of coefficients, each turn reduced -/
def psum (q : Int) (f : Nat → Nat → Int) : Nat → Nat → Int
  | 0, _ => 0
  | k + 1, j => (psum q f k j + f k j) % q
end
end
section
theorem fillD11 : PySem.Challenge.rw_yi0068_01 = PySem.Challenge.rw_yi0068_01 ∧ hd.heap_39 = hd.heap_39 := by
  k_fill
  exact ⟨rfl, rfl⟩
/-- a matrix of the module at mo: R rows of C polynomials lie in it; tr: is it read the other way round -/
def MatAt (G : Heap) (mo r : Addr) (n : Nat) (v : Value) (R C : Nat) (tr : Bool) (cf : Nat → Nat → Nat → Int) : Prop :=
  ∃ a D, v = .ref a ∧ Ins G a 333 (matM (.ref mo) D (.bool tr)) ∧ LP G D R (fun i row => LP G row C (fun j x => PolyAt G r n x (cf i j)))
section
variable {prog : Program} {w : World} {A : Around} {G h : Heap} {env : Env} {P : Value → Heap → Heap → Prop} {q : Int} {n : Nat} {r mo : Addr} {d : Nat} {a b : Addr} {D : Value} {R C' : Nat} {tr : Bool} {Q : Nat → Nat → Value → Prop} {l lc : List (Str × Value)}
set_option maxHeartbeats 1000000 in
theorem c248 (hA : Rm A (d + 3)) (top : TopG w G) (Ia : Ins G a 333 (matM (.ref mo) D (.bool tr))) (ha : LP G D R (fun i row => LP G row C' (fun j x => Q i j x))) (hR0 : 1 ≤ R) (hR : R ≤ 1000) (hC : C' ≤ 1000)
    (p : ∀ v G' h' t u, Ext [] G h G' h' → G'.get? v = some { cls := .type "tuple", data := .seq #[.int (if tr = true then (C' : Int) else R) t, .int (if tr = true then (R : Int) else C') u] } → P (.ref v) G' h') : C [] prog w A (.call (.ref 248) ⟨[.ref a], []⟩) G h P := by
  obtain ⟨La, rfl⟩ : ∃ La, D = .ref La := let ⟨a, _, e, _⟩ := ha; ⟨a, e⟩
  refine fnL [("self", .ref a)] hA top fun A1 env h1 hA1 hE F bs e1 => ?_
  refine B_cons (B_If ?_)
  k_upd; k_upd; k_upd; k_upd
  refine T_attrOwn top (fun i => Ia.keeps i) (by rfl) (by unfold KK; k_is) ?_
  refine T_truthyB ⟨fun ht => ?_, fun ht => ?_⟩
  · have ht : tr = false := by simpa using ht
    subst ht
    refine B_cons (B_Return ?_)
    k_upd
    refine T_sp2 ?_ (by rfl)
    k_upd; k_upd; k_upd; k_upd
    refine T_attrOwn top (fun i => Ia.keeps i) (by rfl) (by unfold KK; k_is) ?_
    refine ⟨Kept.builtin, T_len ha (by k_caughtB) fun t1 => ?_⟩
    k_upd; k_upd; k_upd; k_upd; k_upd
    refine T_attrOwn top (fun i => Ia.keeps i) (by rfl) (by unfold KK; k_is) ?_
    k_upd
    refine T_item ha (i := 0) (by simp) (by k_caughtB) (by k_caughtB) fun row hrow => ?_
    refine ⟨Kept.builtin, T_len hrow (by k_caughtB) fun t2 => ?_⟩
    refine T_newTuple (by simp) fun v G' h' hv e => ?_
    exact p v G' h' _ _ (e1.trans e) hv
  · have ht : tr = true := by simpa using ht
    subst ht
    refine B_cons (B_Return ?_)
    k_upd
    refine T_sp2 ?_ (by rfl)
    k_upd; k_upd; k_upd; k_upd; k_upd
    refine T_attrOwn top (fun i => Ia.keeps i) (by rfl) (by unfold KK; k_is) ?_
    k_upd
    refine T_item ha (i := 0) (by simp) (by k_caughtB) (by k_caughtB) fun row hrow => ?_
    refine ⟨Kept.builtin, T_len hrow (by k_caughtB) fun t2 => ?_⟩
    k_upd; k_upd; k_upd; k_upd
    refine T_attrOwn top (fun i => Ia.keeps i) (by rfl) (by unfold KK; k_is) ?_
    refine ⟨Kept.builtin, T_len ha (by k_caughtB) fun t1 => ?_⟩
    refine T_newTuple (by simp) fun v G' h' hv e => ?_
    exact p v G' h' _ _ (e1.trans e) hv
end
end
section
theorem fillD12 : PySem.Challenge.rw_yi0068_01 = PySem.Challenge.rw_yi0068_01 ∧ hd.heap_39 = hd.heap_39 := by
  k_fill
  exact ⟨rfl, rfl⟩
section
variable {prog : Program} {w : World} {A : Around} {G h : Heap} {env : Env} {P : Value → Heap → Heap → Prop} {q : Int} {n : Nat} {r mo : Addr} {d : Nat} {a b : Addr} {D : Value} {R C' : Nat} {tr : Bool} {Q : Nat → Nat → Value → Prop} {l lc : List (Str × Value)}
set_option maxHeartbeats 1000000 in
theorem c284 {ix : Addr} {i j : Nat} {t u : Tok} (hA : Rm A (d + 3)) (top : TopG w G) (Ia : Ins G a 333 (matM (.ref mo) D (.bool tr))) (ha : LP G D R (fun i row => LP G row C' (fun j x => Q i j x))) (hR : R ≤ 1000) (hC : C' ≤ 1000) (hx : TAt G ix [.int i t, .int j u])
    (hi : (if tr = true then j else i) < R) (hj : (if tr = true then i else j) < C')
    (p : ∀ x h', Ext [] G h G h' → Q (if tr = true then j else i) (if tr = true then i else j) x → P x G h') : C [] prog w A (.call (.ref 284) ⟨[.ref a, .ref ix], []⟩) G h P := by
  obtain ⟨La, rfl⟩ : ∃ La, D = .ref La := let ⟨a, _, e, _⟩ := ha; ⟨a, e⟩
  refine fnL [("self", .ref a), ("idx", .ref ix)] hA top fun A1 env h1 hA1 hE F bs e1 => ?_
  refine B_cons (B_Assert ?_)
  k_upd; k_upd; k_upd; k_upd; k_upd; k_upd
  refine ⟨Kept.builtin, T_isiTup hx (T_truthyB ⟨fun _ => ?_, fun h => (nomatch h)⟩)⟩
  k_upd; k_upd; k_upd; k_upd; k_upd
  refine ⟨Kept.builtin, T_lenT hx (by simp) fun t1 => ?_⟩
  k_upd
  refine T_eqI (T_truthyB ⟨fun _ => ?_, fun h => by simp at h⟩)
  k_upd
  refine ⟨rfl, ?_⟩
  refine B_cons (B_If ?_)
  k_upd; k_upd; k_upd; k_upd
  refine T_attrOwn top (fun i => Ia.keeps i) (by rfl) (by unfold KK; k_is) ?_
  refine T_truthyB ⟨fun ht => ?_, fun ht => ?_⟩
  · have ht : tr = false := by simpa using ht
    subst ht
    refine B_cons (B_Return ?_)
    k_upd; k_upd; k_upd; k_upd
    refine T_attrOwn top (fun i => Ia.keeps i) (by rfl) (by unfold KK; k_is) ?_
    k_upd; k_upd; k_upd
    refine T_itemT hx (i := 0) rfl rfl (by simp) ?_
    refine T_item ha (by rfl) hi hR fun row hrow => ?_
    k_upd; k_upd; k_upd
    refine T_itemT hx (i := 1) rfl rfl (by simp) ?_
    refine T_item hrow (by rfl) hj hC fun y hy => ?_
    exact p y _ e1 hy
  · have ht : tr = true := by simpa using ht
    subst ht
    refine B_cons (B_Return ?_)
    k_upd; k_upd; k_upd; k_upd
    refine T_attrOwn top (fun i => Ia.keeps i) (by rfl) (by unfold KK; k_is) ?_
    k_upd; k_upd; k_upd
    refine T_itemT hx (i := 1) rfl rfl (by simp) ?_
    refine T_item ha (by rfl) hi hR fun row hrow => ?_
    k_upd; k_upd; k_upd
    refine T_itemT hx (i := 0) rfl rfl (by simp) ?_
    refine T_item hrow (by rfl) hj hC fun y hy => ?_
    exact p y _ e1 hy
theorem T_matItem {value slice : Expr} {ix : Addr} {i j : Nat} {t u : Tok} (hA : Rm A (d + 4)) (F : Fm w env G h l lc) (Ia : Ins G a 333 (matM (.ref mo) D (.bool tr))) (ha : LP G D R (fun i row => LP G row C' (fun j x => Q i j x))) (hR : R ≤ 1000) (hC : C' ≤ 1000) (hx : TAt G ix [.int i t, .int j u])
    (hi : (if tr = true then j else i) < R) (hj : (if tr = true then i else j) < C')
    (p : ∀ x h', Ext [] G h G h' → Q (if tr = true then j else i) (if tr = true then i else j) x → P x G h')
    (hsl : subscripted slice true (.ref a) (.ref ix) = runValue (.builtin "lifetime.subscript" ⟨[.ref a, .ref ix], []⟩) := by with_unfolding_all rfl) : T [] prog w A (subscriptTail value slice (.ref a) (.ref ix)) G h P :=
  T_subOwn (K := 333) (f := 284) F (fun i => Ia.keeps i) (by kernel_rfl) (T_C (c284 hA.in1 F.top Ia ha hR hC hx hi hj p)) (by kernel_rfl) (by kernel_rfl) hsl
end
end
section
theorem fillD13 : PySem.Challenge.rw_yi0068_01 = PySem.Challenge.rw_yi0068_01 ∧ hd.heap_39 = hd.heap_39 := by
  k_fill
  exact ⟨rfl, rfl⟩
theorem Ins.live {H : Heap} {x C : Addr} {m : Str → Option Value} (y : Ins H x C m) : ∃ dx, H.get? x = some (instObj C dx) ∧ H.Ns dx m ∧ ∃ o, H.get? dx = some o := let ⟨dx, a, b⟩ := y; ⟨dx, a, b, ns_live b⟩
section
variable {prog : Program} {w : World} {A : Around} {G h : Heap} {env : Env} {P : Value → Heap → Heap → Prop} {q : Int} {n : Nat} {r mo : Addr} {d : Nat} {a b : Addr} {D : Value} {R C' : Nat} {tr : Bool} {Q : Nat → Nat → Value → Prop} {l lc : List (Str × Value)}
set_option maxHeartbeats 1000000 in
theorem c255 {m : Str → Option Value} (hA : Rm A (d + 3)) (top : TopG w G) (Ia : Ins h a 333 m) (hm : m "_data" = some D) (ha : LP G D R (fun i row => LP G row C' (fun j x => Q i j x))) (hR0 : 1 ≤ R) (hR : R ≤ 1000) (hC : C' ≤ 1000)
    (p : ∀ G' h', Ext [] G h G' h' → P (.bool true) G' h') : C [] prog w A (.call (.ref 255) ⟨[.ref a], []⟩) G h P := by
  obtain ⟨La, rfl⟩ : ∃ La, D = .ref La := let ⟨a, _, e, _⟩ := ha; ⟨a, e⟩
  refine fnL [("self", .ref a)] hA top fun A1 env h1 hA1 hE F bs e1 => ?_
  obtain ⟨dx, q1, q2, q3⟩ := Ia.live
  have nL : ∀ b, (∃ o, h.get? b = some o) → b ≠ env.locals := fun b ⟨o, q⟩ z => by
    have dl : Dead h env.locals := (bs []).l.elim (fun m => by cases m) id
    rw [z, show h.get? env.locals = none from dl] at q; cases q
  have I1 : h1.get? a = some (instObj 333 dx) ∧ h1.Ns dx m := ⟨e1.keep0 _ _ q1, q2.keeps e1.keep0⟩
  have l1 : ∃ o, h1.get? dx = some o := ns_live I1.2
  refine B_cons ?_
  refine B_ForK [env.locals] hA1.hd ?_
  k_upd; k_upd
  refine T_attrOwn top (fun _ => ⟨dx, I1.1, I1.2⟩) hm (by unfold KK; k_is) ?_
  refine ⟨_, _, fun i Gy hy => Fm w env Gy hy [("self", .ref a)] [] ∧ hy.get? a = some (instObj 333 dx) ∧ hy.Ns dx m, Iter.list ha, ⟨F, I1.1, I1.2⟩, ?_, ?_, ?_, ?_⟩
  · intro x hx
    simp at hx
    subst hx
    exact ⟨F.live (.inl rfl), (bs []).l⟩
  · rintro i Gy hy hz ⟨Fy, y1, y2⟩ k hin
    exact ⟨Fy.other (fun b o hb q => k b o (F.live hb) q) hin, k _ _ ⟨_, I1.1⟩ y1, y2.at' fun o q => k _ o l1 q⟩
  · rintro i Gy hy v hi hv ⟨Fy, y1, y2⟩ sub QK hQ
    obtain ⟨Lr, rfl⟩ : ∃ La, v = .ref La := let ⟨a, _, e, _⟩ := hv; ⟨a, e⟩
    refine B_storeL Fy (.inl (by simp)) (by k_all) (by kernel_rfl) fun h8 sb8 F8 => ?_
    have z1 := sb8.extBut _ _ (nL a ⟨_, q1⟩) y1
    have z2 := y2.at' (h' := h8) fun o q => sb8.extBut _ _ (nL dx q3) q
    refine B_cons (B_If ?_)
    k_upd; k_upd; k_upd; k_upd
    refine ⟨Kept.builtin, T_len (hv.keeps sub) (by k_caughtB) fun t1 => ?_⟩
    k_upd; k_upd; k_upd; k_upd; k_upd
    refine T_attrOwn F8.top (fun _ => ⟨dx, z1, z2⟩) hm (by unfold KK; k_is) ?_
    k_upd
    refine T_item (ha.keeps sub) (i := 0) (by simp) (by k_caughtB) (by k_caughtB) fun row hrow => ?_
    refine ⟨Kept.builtin, T_len (hrow.keeps sub) (by k_caughtB) fun t2 => ?_⟩
    refine T_neI (T_truthyB ⟨fun h => by simp at h, fun _ => ?_⟩)
    exact B_nil (B_nil (hQ _ _ ⟨F8.weak (by k_caught0) (by k_caught0), z1, z2⟩))
  · rintro Gy hy ⟨Fy, Iy⟩ sub
    refine B_intro fun x => B_cons (B_Return ?_)
    k_upd
    exact p _ _ x
end
end
section
theorem fillD14 : PySem.Challenge.rw_yi0068_01 = PySem.Challenge.rw_yi0068_01 ∧ hd.heap_39 = hd.heap_39 := by
  k_fill
  exact ⟨rfl, rfl⟩
section
variable {prog : Program} {w : World} {A : Around} {G h : Heap} {env : Env} {P : Value → Heap → Heap → Prop} {q : Int} {n : Nat} {r mo : Addr} {d : Nat} {a b : Addr} {D : Value} {R C' : Nat} {tr : Bool} {Q : Nat → Nat → Value → Prop} {l lc : List (Str × Value)}
set_option maxHeartbeats 1000000 in
theorem c333 (hA : Rm A (d + 6)) (top : TopG w G) (ha : LP G D R (fun i row => LP G row C' (fun j x => Q i j x))) (hR0 : 1 ≤ R) (hR : R ≤ 1000) (hC : C' ≤ 1000)
    (p : ∀ v G' h', Ext [] G h G' h' → Ins G' v 333 (matM (.ref mo) D (.bool tr)) → P (.ref v) G' h') : C [] prog w A (.call (.ref 333) ⟨[.ref mo, D], [("transpose", .bool tr)]⟩) G h P := by
  refine C_make hA top (by unfold KK; k_is) ?_
  intro A1 x dx h1 hA1 e1 dd dx' hx hns od ox
  refine fnL [("self", .ref x), ("parent", .ref mo), ("matrix_data", D), ("transpose", .bool tr)] hA1 top (hbind := fun s hi => kp_binds (top.k.keeps hi) (fun _ => by kernel_rfl)) fun A2 env h2 hA2 hE F bs e2 => ?_
  refine B_cons ?_
  refine B_AssignAttr ?_ (by rfl)
  k_upd
  k_upd
  refine B_setOwn top (e2.keep0 _ _ hx) (hns.at (e2.keep0 _)) (by k_caughtB) od (.inr dd) fun h3 nk3 sb3 in3 => ?_
  have F3 := F.upd (bs []) hns.live sb3 in3
  have nx : x ≠ dx := fun e => by
    obtain ⟨o, es, ep, q, qd, _⟩ := hns
    rw [← e, hx] at q; cases q; cases qd
  have hx3 : h3.get? x = some (instObj 333 dx) := sb3.extBut _ _ nx (e2.keep0 _ _ hx)
  refine B_cons ?_
  refine B_AssignAttr ?_ (by rfl)
  k_upd
  k_upd
  refine B_setOwn top hx3 nk3 (by k_caughtB) od (.inr dd) fun h4 nk4 sb4 in4 => ?_
  have F4 := F3.upd (bs []) hns.live sb4 in4
  have hx4 := sb4.extBut _ _ nx hx3
  refine B_cons ?_
  refine B_AssignAttr ?_ (by rfl)
  k_upd
  k_upd
  refine B_setOwn top hx4 nk4 (by k_caughtB) od (.inr dd) fun h5 nk5 sb5 in5 => ?_
  have F5 := F4.upd (bs []) hns.live sb5 in5
  have hx5 := sb5.extBut _ _ nx hx4
  have I5 : Ins h5 x 333 _ := ⟨dx, hx5, nk5.ns⟩
  refine B_cons (B_If ?_)
  k_upd; k_upd; k_upd; k_upd
  refine T_methodOwn top (fun _ => I5) (by kernel_rfl) (by unfold KK; k_is) ?_
  k_upd
  refine ⟨Kept.ofK (top.k.keeps in5) (by kernel_rfl), T_C (c255 (d := d) (hA2.mono (by k_caughtB)) top I5 (by rfl) ha hR0 hR hC fun G6 h6 e6 => ?_)⟩
  refine T_truthyB ⟨fun h => (nomatch h), fun _ => ?_⟩
  refine B_nil (B_nil ?_)
  exact ⟨rfl, off_ext e6 ox ⟨_, hx5⟩, off_ext e6 od nk5.live, _, e6.keep0 _ _ hx5, nk5.ns.keeps e6.keep0, fun G'' sub ex I => p _ _ _ ex I⟩
end
end
section
theorem fillD15 : PySem.Challenge.rw_yi0068_01 = PySem.Challenge.rw_yi0068_01 ∧ hd.heap_39 = hd.heap_39 := by
  k_fill
  exact ⟨rfl, rfl⟩
section
variable {prog : Program} {w : World} {A : Around} {G h : Heap} {env : Env} {P : Value → Heap → Heap → Prop} {q : Int} {n : Nat} {r mo : Addr} {d : Nat} {a b : Addr} {D : Value} {R C' : Nat} {tr : Bool} {Q : Nat → Nat → Value → Prop} {l lc : List (Str × Value)}
set_option maxHeartbeats 1000000 in
theorem c359 (hA : Rm A (d + 7)) (top : TopG w G) (ha : LP G D R (fun i row => LP G row C' (fun j x => Q i j x))) (hR0 : 1 ≤ R) (hR : R ≤ 1000) (hC : C' ≤ 1000)
    (p : ∀ v G' h', Ext [] G h G' h' → Ins G' v 333 (matM (.ref mo) D (.bool tr)) → P (.ref v) G' h') : C [] prog w A (.call (.ref 359) ⟨[.ref mo, D], [("transpose", .bool tr)]⟩) G h P := by
  refine fnL [("self", .ref mo), ("data", D), ("transpose", .bool tr)] hA top (hbind := fun s hi => kp_binds (top.k.keeps hi) (fun _ => by kernel_rfl)) fun A2 env h2 hA2 hE F bs e2 => ?_
  refine B_cons (B_Return ?_)
  refine T_CallN ?_
  k_upd; k_upd; k_upd; k_upd; k_upd
  exact ⟨Kept.ofK (top.k.keeps F.into) (by kernel_rfl), T_C (c333 (hA2.mono (e := d + 6) (by k_caughtB)) top ha hR0 hR hC fun v G' h' e I => p v G' h' (e2.trans e) I)⟩
end
end
section
theorem fillD16 : PySem.Challenge.rw_yi0068_01 = PySem.Challenge.rw_yi0068_01 ∧ hd.heap_39 = hd.heap_39 := by
  k_fill
  exact ⟨rfl, rfl⟩
section
variable {prog : Program} {w : World} {A : Around} {G h : Heap} {env : Env} {P : Value → Heap → Heap → Prop} {r : Addr} {d : Nat}
/-- Module(ring) -/
theorem c377 (hA : Rm A (d + 3)) (top : TopG w G) (p : ∀ v G' h', Ext [] G h G' h' → Ins G' v 377 (modM (.ref r)) → P (.ref v) G' h') : C [] prog w A (.call (.ref 377) ⟨[.ref r], []⟩) G h P := by
  refine C_make hA top (by unfold KK; k_is) ?_
  intro A1 x dx h1 hA1 e1 dd dx' hx hns od ox
  refine fnL [("self", .ref x), ("ring", .ref r)] hA1 top fun A2 env h2 hA2 hE F bs e2 => ?_
  refine B_cons ?_
  refine B_AssignAttr ?_ (by rfl)
  k_upd
  k_upd
  refine B_setOwn top (e2.keep0 _ _ hx) (hns.at (e2.keep0 _)) (by k_caughtB) od (.inr dd) fun h3 nk3 sb3 in3 => ?_
  have nx : x ≠ dx := fun e => by
    obtain ⟨o, es, ep, q, qd, _⟩ := hns
    rw [← e, hx] at q; cases q; cases qd
  have hx3 : h3.get? x = some (instObj 377 dx) := sb3.extBut _ _ nx (e2.keep0 _ _ hx)
  refine B_nil ?_
  exact ⟨rfl, ox, od, _, hx3, nk3.ns, fun G'' sub ex I => p _ _ _ ex I⟩
end
end
section
theorem fillD17 : PySem.Challenge.rw_yi0068_01 = PySem.Challenge.rw_yi0068_01 ∧ hd.heap_39 = hd.heap_39 := by
  k_fill
  exact ⟨rfl, rfl⟩
/-- the two tables of codes stand, and are not frozen -/
structure TG (G h : Heap) : Prop where
  tb : Tb h
  off : ∀ P ∈ TW, G.get? P = none
theorem TG.ext {G h G' h' : Heap} (t : TG G h) (e : Ext [] G h G' h') : TG G' h' := ⟨t.tb.ext e, fun P hP => off_ext e (t.off P hP) (let ⟨_, q, _⟩ := t.tb P hP; ⟨_, q⟩)⟩
theorem TG.extW {W : List Addr} {G h G' h' : Heap} (t : TG G h) (e : Ext W G h G' h') (tb : Tb h') : TG G' h' := ⟨tb, fun P hP => off_ext e (t.off P hP) (let ⟨_, q, _⟩ := t.tb P hP; ⟨_, q⟩)⟩
theorem TG.same {G h h' : Heap} {a : Addr} (t : TG G h) (sb : Heap.SameBut a h h') (ha : a ∉ TW) : TG G h' := ⟨t.tb.same sb ha, t.off⟩
theorem TG.keep {G h h' : Heap} (t : TG G h) (k : ∀ P ∈ TW, ∀ o, h.get? P = some o → h'.get? P = some o) : TG G h' := ⟨t.tb.keep k, t.off⟩
theorem TG.live {G h : Heap} (t : TG G h) {P : Addr} (hP : P ∈ TW) : ∃ o, h.get? P = some o := let ⟨_, q, _⟩ := t.tb P hP; ⟨_, q⟩
theorem gOk_of {scope : Scope} {env e : Env} (h : env = e) (q : gOk scope e = true) : gOk scope env = true := h ▸ q
theorem code_of {c : Value} {env e : Env} (h : env = e) (q : e.code = c) : env.code = c := h ▸ q
section
variable {α : Type} {W W' : List Addr} {prog : Program} {w : World} {A : Around} {t : Sem α} {G h : Heap} {P : α → Heap → Heap → Prop}
theorem T.sub (x : T W' prog w A t G h P) (hW : ∀ a ∈ W', a ∈ W) : T W prog w A t G h P := fun s hs hi =>
  wpAny_mono (x s hs hi) (fun _ _ ⟨G', e, g, p⟩ => ⟨G', (Ext.refl hi).weak e fun a m => .inl (hW a m), g, p⟩) fun _ _ z => z
end
section
variable {prog : Program} {w : World} {A : Around} {G h : Heap} {env : Env} {P : Value → Heap → Heap → Prop} {q : Int} {n : Nat} {r mo : Addr} {d : Nat} {a b : Addr} {D : Value} {R C' : Nat} {tr : Bool} {cf : Nat → Nat → Nat → Int} {l lc : List (Str × Value)}
set_option maxHeartbeats 2000000 in
theorem c367 {args : Args} (hargs : (args = ⟨[.ref mo, D], [("transpose", .bool tr)]⟩) ∨ (args = ⟨[.ref mo, D, .bool tr], []⟩) ∨ (args = ⟨[.ref mo, D], []⟩ ∧ tr = false)) (hA : Rm A (d + 10)) (top : TopG w G) (tb : TG G h)
    (Im : Ins G mo 377 (modM (.ref r)))
    (ha : LP G D R (fun i row => LP G row C' (fun j x => PolyAt G r n x (cf i j)))) (hR0 : 1 ≤ R) (hR : R ≤ 1000) (hC : C' ≤ 1000)
    (p : ∀ v G' h', Ext TW G h G' h' → TG G' h' → Ins G' v 333 (matM (.ref mo) D (.bool tr)) → P (.ref v) G' h') : C TW prog w A (.call (.ref 367) args) G h P := by
  obtain ⟨La, rfl⟩ : ∃ La, D = .ref La := let ⟨a, _, e, _⟩ := ha; ⟨a, e⟩
  refine fnL [("self", .ref mo), ("matrix_elements", .ref La), ("transpose", .bool tr)] hA top (hbind := fun s hi => by rcases hargs with rfl | rfl | ⟨rfl, rfl⟩ <;> exact kp_binds (top.k.keeps hi) (fun _ => by kernel_rfl)) fun A1 env h1 hA1 hE F bs e1 => ?_
  have tb1 : TG G h1 := tb.ext e1
  have off : OffW TW env := tb.tb.off (bs [])
  refine B_cons (B_If ?_)
  k_go
  refine ⟨Kept.builtin, T_isiListList ha (T_truthyB ⟨fun h => (nomatch h), fun _ => ?_⟩)⟩
  refine B_nil ?_
  refine B_cons (B_If ?_)
  k_go
  refine T_item ha (i := 0) (by simp) (by k_caughtB) (by k_caughtB) fun row hrow => ?_
  k_go
  refine ⟨Kept.builtin, T_isiListList hrow (T_truthyB ⟨fun _ => ?_, fun h => (nomatch h)⟩)⟩
  refine B_cons ?_
  refine B_ForK [env.locals, 320, 362] hA1.hd ?_
  k_go
  refine ⟨_, _, fun i Gy hy => Fm w env Gy hy [("self", .ref mo), ("matrix_elements", .ref La), ("transpose", .bool tr)] [] ∧ TG Gy hy, Iter.list ha, ⟨F, tb1⟩, ?_, ?_, ?_, ?_⟩
  · intro x hx
    rcases List.mem_cons.mp hx with rfl | hx
    · exact ⟨F.live (.inl rfl), (bs _).l⟩
    · exact ⟨tb1.live hx, .inl hx⟩
  · rintro i Gy hy hz ⟨Fy, ty⟩ k hin
    exact ⟨Fy.other (fun b o hb q => k b o (F.live hb) q) hin, ty.keep fun P hP o q => k _ _ (tb1.live hP) q⟩
  · rintro i Gy hy v hi hv ⟨Fy, ty⟩ sub QK hQ
    refine B_storeL Fy (.inl (by simp)) (by k_all) (by kernel_rfl) fun h8 sb8 F8 => ?_
    have t8 := ty.same sb8 off.loc
    refine B_cons (B_If_w ?_)
    k_upd; k_upd
    refine T.sub (T_allGen (lc' := []) (d := d) (c := 366) (Pt := 362) (hA1.mono (by k_caughtB)) F8 off (gOk_of hE (by kernel_rfl)) (code_of hE rfl) (codeHd_of_K F8.top.k (by kernel_rfl)) (by simp [TW]) t8.tb (t8.off _ (by simp [TW])) (by rfl) (by k_caught0) (by k_all) (by unfold KK; k_is) ?_) (by simp [TW])
    k_go
    refine ⟨_, _, Iter.list (hv.keeps sub), ?_, ?_⟩
    · intro A' i v Ga ha C code hA' hi hv sub' F'
      obtain ⟨x, Lx, rfl, Ix, _⟩ := hv
      generalize hcE : gEnv _ env C code = cenv at F' ⊢
      have hcE := hcE.symm
      k_go
      exact ⟨Kept.builtin, T_isiOwn F'.top (fun i => (((Ix.keeps sub).keeps sub').keeps i)) rfl⟩
    · intro G' h' e' tb'
      refine T_truthyB ⟨fun h => (nomatch h), fun _ => ?_⟩
      have F9 := F8.ext e' off
      exact B_nil (B_nil (hQ _ _ ⟨F9.weak (by k_caught0) (by k_caught0), t8.extW e' tb'⟩))
  · rintro Gy hy ⟨Fy, ty⟩ sub
    refine B_intro fun ey => B_cons (B_Return_w ?_)
    k_go
    refine T_methodOwn Fy.top (fun i => (Im.keeps sub).keeps i) (by kernel_rfl) (by unfold KK; k_is) ?_
    k_go
    refine ⟨Kept.ofK (Fy.top.k.keeps Fy.into) (by kernel_rfl), (T_C (c359 (d := d) (hA1.mono (by k_caughtB)) Fy.top (ha.keeps sub fun i x hi hx => hx.keeps sub) hR0 hR hC fun v G' h' e I => ?_)).weak⟩
    exact p v G' h' (ey.trans e.wk) (ty.ext e) I
end
end
section
theorem fillD18 : PySem.Challenge.rw_yi0068_01 = PySem.Challenge.rw_yi0068_01 ∧ hd.heap_39 = hd.heap_39 := by
  k_fill
  exact ⟨rfl, rfl⟩
/-- a matrix of m rows and l columns as it reads; tr: is it stored the other way round -/
def Mat (G : Heap) (mo r : Addr) (n : Nat) (tr : Bool) (v : Value) (m l : Nat) (e : Nat → Nat → Nat → Int) : Prop :=
  ∃ a L, v = .ref a ∧ Ins G a 333 (matM (.ref mo) (.ref L) (.bool tr)) ∧ LP G (.ref L) (if tr = true then l else m) (fun i row => LP G row (if tr = true then m else l) (fun j x => PolyAt G r n x (e (if tr = true then j else i) (if tr = true then i else j))))
theorem Mat.keeps {G G' : Heap} {mo r : Addr} {n : Nat} {tr : Bool} {v : Value} {m l : Nat} {e : Nat → Nat → Nat → Int} (x : Mat G mo r n tr v m l e) (k : ∀ b o, G.get? b = some o → G'.get? b = some o) : Mat G' mo r n tr v m l e :=
  let ⟨a, L, q, I, hl⟩ := x; ⟨a, L, q, I.keeps k, hl.keeps k fun _ _ _ h => h.keeps k fun _ _ _ h => h.keeps k⟩
theorem Mat.ext {W : List Addr} {G h G' h' : Heap} {mo r : Addr} {n : Nat} {tr : Bool} {v : Value} {m l : Nat} {e : Nat → Nat → Nat → Int} (x : Mat G mo r n tr v m l e) (k : Ext W G h G' h') : Mat G' mo r n tr v m l e := x.keeps k.sub
section
variable {W : List Addr} {prog : Program} {w : World} {A : Around} {G h : Heap} {env : Env} {P : Value → Heap → Heap → Prop} {q : Int} {n : Nat} {r mo : Addr} {d : Nat} {a b : Addr} {D v : Value} {m l : Nat} {tr : Bool} {e : Nat → Nat → Nat → Int} {ll lc : List (Str × Value)}
theorem c248M (hA : Rm A (d + 3)) (top : TopG w G) (M : Mat G mo r n tr (.ref a) m l e) (hm : 1 ≤ m ∧ m ≤ 1000) (hl : 1 ≤ l ∧ l ≤ 1000)
    (p : ∀ v G' h' t u, Ext [] G h G' h' → TAt G' v [.int m t, .int l u] → P (.ref v) G' h') : C [] prog w A (.call (.ref 248) ⟨[.ref a], []⟩) G h P := by
  obtain ⟨_, L, z, I, hL⟩ := M
  cases z
  refine c248 hA top I hL (by split <;> omega) (by split <;> omega) (by split <;> omega) fun v G' h' t u e hv => ?_
  refine p v G' h' t u e ⟨0, hv.trans ?_⟩
  cases tr <;> rfl
theorem T_dim {pl : Sem Bool} {pos : Pos} (hA : Rm A (d + 3)) (top : TopG w G) (M : Mat G mo r n tr v m l e) (hm : 1 ≤ m ∧ m ≤ 1000) (hl : 1 ≤ l ∧ l ≤ 1000) (hi : In G h)
    (p : ∀ v G' h' t u, Ext [] G h G' h' → TAt G' v [.int m t, .int l u] → P (.ref v) G' h') :
    T W prog w A (getMethod v "dim" pl) G h (fun fx G2 h2 => T W prog w A (callWith pos fx.1 fx.2 (backTo pos (starEach [] env)) (backToKw pos (keywordEach [] env))) G2 h2 P) := by
  obtain ⟨a, L, rfl, I, hL⟩ := id M
  refine T_methodOwn top (fun i => I.keeps i) (by kernel_rfl) (by unfold KK; k_is) ?_
  refine T_cw0 ?_
  exact ⟨Kept.ofK (top.k.keeps hi) (by kernel_rfl), (T_C (c248M hA top M hm hl p)).weak⟩
theorem T_matGet {value slice : Expr} {ix : Addr} {i j : Nat} {t u : Tok} (hA : Rm A (d + 4)) (F : Fm w env G h ll lc) (M : Mat G mo r n tr v m l e) (hm : m ≤ 1000) (hl : l ≤ 1000) (hx : TAt G ix [.int i t, .int j u])
    (hi : i < m) (hj : j < l) (p : ∀ x h', Ext [] G h G h' → PolyAt G r n x (e i j) → P x G h')
    (hsl : ∀ a, subscripted slice true (.ref a) (.ref ix) = runValue (.builtin "lifetime.subscript" ⟨[.ref a, .ref ix], []⟩) := by intro _; with_unfolding_all rfl) : T [] prog w A (subscriptTail value slice v (.ref ix)) G h P := by
  obtain ⟨a, L, rfl, I, hL⟩ := M
  refine T_matItem hA F I hL (by split <;> omega) (by split <;> omega) hx (by split <;> omega) (by split <;> omega) (fun x h' e' hx' => p x h' e' ?_) (hsl a)
  cases tr <;> exact hx'
/-- the transposed -/
theorem c262 (hA : Rm A (d + 12)) (top : TopG w G) (tb : TG G h) (Im : Ins G mo 377 (modM (.ref r))) (M : Mat G mo r n tr (.ref a) m l e) (hm : 1 ≤ m ∧ m ≤ 1000) (hl : 1 ≤ l ∧ l ≤ 1000)
    (p : ∀ v G' h', Ext TW G h G' h' → TG G' h' → Mat G' mo r n (!tr) v l m (fun i j => e j i) → P v G' h') : C TW prog w A (.call (.ref 262) ⟨[.ref a], []⟩) G h P := by
  obtain ⟨_, L, z, I, hL⟩ := M
  cases z
  refine fnL [("self", .ref a)] hA top fun A1 env h1 hA1 hE F bs e1 => ?_
  refine B_cons (B_Return_w ?_)
  k_go
  refine T_methodAttr top (fun i => I.keeps i) (by rfl) (by unfold KK; k_is) ?_
  k_go
  refine T_attrOwn top (fun i => I.keeps i) (by rfl) (by unfold KK; k_is) ?_
  k_go
  refine T_attrOwn top (fun i => I.keeps i) (by rfl) (by unfold KK; k_is) ?_
  refine T_boolNot (T_truthyB ?_)
  refine ⟨(Im.keeps F.into).kept, T_C (CB_inst (K := 377) (f := 367) top (fun i => Im.keeps i) (by kernel_rfl) (c367 (d := d) (D := .ref L) (tr := !tr) (cf := fun i j => e (if tr = true then j else i) (if tr = true then i else j)) (.inr (.inl rfl)) (hA1.mono (by k_caughtB)) top (tb.ext e1) Im hL (by split <;> omega) (by split <;> omega) (by split <;> omega) fun v G' h' e' tb' I' => ?_))⟩
  refine p _ _ _ (e1.wk.trans e') tb' ⟨v, L, rfl, I', ?_⟩
  have := hL.keeps e'.sub fun _ _ _ h => h.keeps e'.sub fun _ _ _ h => h.keeps e'.sub
  cases tr <;> exact this
theorem T_T {ex : Bool} (hA : Rm A (d + 13)) (top : TopG w G) (tb : TG G h) (Im : Ins G mo 377 (modM (.ref r))) (M : Mat G mo r n tr v m l e) (hm : 1 ≤ m ∧ m ≤ 1000) (hl : 1 ≤ l ∧ l ≤ 1000)
    (p : ∀ v G' h', Ext TW G h G' h' → TG G' h' → Mat G' mo r n (!tr) v l m (fun i j => e j i) → P v G' h') : T TW prog w A (getAttr v "T" ex) G h P := by
  obtain ⟨a, L, rfl, I, hL⟩ := id M
  refine T_prop (f := 262) (p := 270) top (fun i => I.keeps i) (by kernel_rfl) (by unfold KK; k_is) (by unfold KK; k_is) (c262 (d := d) hA.in1 top tb Im M hm hl fun v G' h' e' tb' M' => ⟨?_, p v G' h' e' tb' M'⟩)
  obtain ⟨_, _, rfl, _⟩ := M'
  rfl
end
end
section
theorem fillD19 : PySem.Challenge.rw_yi0068_01 = PySem.Challenge.rw_yi0068_01 ∧ hd.heap_39 = hd.heap_39 := by
  k_fill
  exact ⟨rfl, rfl⟩
section
variable {W : List Addr} {prog : Program} {w : World} {A : Around} {G h : Heap} {env : Env} {P : Value → Heap → Heap → Prop} {q : Int} {n : Nat} {r mo : Addr} {d : Nat} {a b : Addr} {D v : Value} {m l : Nat} {tr : Bool} {e : Nat → Nat → Nat → Int} {ll lc : List (Str × Value)}
theorem Iter.upto {v : Value} {m : Nat} (x : RAt G v 0 m) (h : m ≤ 1000) : Iter prog w G v m (fun i x => ∃ t, x = .int (i : Int) t) := by
  have := Iter.range (prog := prog) (w := w) x (by k_caughtB) (by k_caughtB) (by k_caughtB) (by k_caughtB)
  simpa using this
theorem OffW.cel (o : OffW W env) {x : Str} {c : Addr} (h : env.cells.lookup x = some c) : c ∉ W := fun m => (o c m).2 x c h rfl
theorem TAt.mono {G h G' h' : Heap} {a : Addr} {vs : List Value} (x : TAt G a vs) (e : Ext W G h G' h') : TAt G' a vs := x.keeps e.sub
set_option maxHeartbeats 2000000 in
theorem c294 (hA : Rm A (d + 20)) (top : TopG w G) (tb : TG G h) (Im : Ins G mo 377 (modM (.ref r))) (rg : RingAt G r q n) (hq : 0 < q) (hn : n ≤ 100) (M : Mat G mo r n false (.ref a) m l e) (hm : 1 ≤ m ∧ m ≤ 100) (hl : 1 ≤ l ∧ l ≤ 100)
    (p : ∀ v G' h', Ext TW G h G' h' → TG G' h' → Mat G' mo r n false v m l (fun i j k => (-e i j k) % q) → P v G' h') : C TW prog w A (.call (.ref 294) ⟨[.ref a], []⟩) G h P := by
  refine fnC [("self", .ref a)] [] [("self", .ref a)] hA top (fun A1 env h1 hA1 hE F bs e1 => ?_) (by k_caught0) (by k_caught0)
  refine B_cons ?_
  refine B_AssignTuple ?_
  k_go
  refine T_dim (d := d) (hA1.mono (by k_caughtB)) top M (by k_caughtB) (by k_caughtB) F.into fun tp G2 h2 t u e2 hv => ?_
  have F2 := F.ext e2
  refine B_unpackT hA1.hd hv F2.into fun h3 e3 => ?_
  have F3 := F2.ext e3
  refine B_orderCons (B_assignName (B_storeL F3 (bs _).l (by k_all) (by kernel_rfl) fun h4 sb4 F4 => ?_))
  refine B_orderCons (B_assignName (B_storeC F4 ((bs _).c _) (by k_all) (by rw [hE]; kernel_rfl) (by kernel_rfl) fun c5 h5 hc5 sb5 F5 => ?_))
  refine B_orderNil ?_
  refine B_intro fun x5 => ?_
  have off : OffW TW env := tb.tb.off (bs [])
  have t5 : TG G2 h5 := ((((tb.ext e1).ext e2).ext e3).same sb4 off.loc).same sb5 (off.cel hc5)
  refine B_cons (B_Return_w ?_)
  k_go
  obtain ⟨_, L, z, I, hL⟩ := id M
  cases z
  have M5 := (M.ext e2)
  refine T_methodAttr F5.top (fun i => (I.keeps e2.sub).keeps i) (by rfl) (by unfold KK; k_is) ?_
  k_go
  refine T.weak (T_Comp [("self", .ref a), ("n", .int l u)] hA1.hd F5 (compOk_of hE (by kernel_rfl)) (.inr (by k_mem)) (by k_caught0) ?_)
  k_go
  refine ⟨Kept.type, T_range1 fun rv G6 h6 hr e6 => ?_⟩
  refine ⟨_, _, fun i row Gx => LP Gx row l (fun j x => PolyAt Gx r n x (fun k => (-e i j k) % q)), Turns.cel hE (Iter.upto hr (by k_caughtB)) (by k_caughtB) (fun _ _ _ _ h k => h.keeps k fun _ _ _ h => h.keeps k) (by k_mem) ?_, ?_⟩
  · intro i vi cenv L7 G7 h7 hi hvi e7 hcE F7
    obtain ⟨ti, rfl⟩ := hvi
    refine T_Comp [("i", .int i ti), ("self", .ref a)] hA1.hd F7 (compOk_of hcE (by kernel_rfl)) (.inl (by k_mem)) (by k_caught0) ?_
    k_go
    refine ⟨Kept.type, T_range1 fun rv8 G8 h8 hr8 e8 => ?_⟩
    refine ⟨_, _, fun j x Gx => PolyAt Gx r n x (fun k => (-e i j k) % q), Turns.loc hcE (Iter.upto hr8 (by k_caughtB)) (by k_caughtB) (fun _ _ _ _ h k => h.keeps k) (by k_mem) ?_, ?_⟩
    · intro j vj cenv2 L9 G9 h9 hj hvj e9 hcE2 F9
      obtain ⟨tj, rfl⟩ := hvj
      have k9 := fun b o q => e9.sub b o (e8.sub b o (e7.sub b o (e6.sub b o q)))
      k_go
      refine T_sp2 ?_ (by rfl)
      k_go
      refine T_newTuple (by simp) fun tp G10 h10 hv10 e10 => ?_
      have F10 := F9.ext e10
      have M10 := (M5.keeps k9).ext e10
      refine T_matGet (d := d + 8) (hA1.mono (by k_caughtB)) F10 M10 (by k_caughtB) (by k_caughtB) ⟨0, hv10⟩ hi hj fun x h11 e11 hx => ?_
      have F11 := F10.ext e11
      exact T_polyNeg (d := d) (hA1.mono (by k_caughtB)) F11 ((((rg.ext e2).keeps k9).ext e10)) hq hn hx fun v G' h' e' hv => hv
    · intro La Ga ha ea hla
      exact hla
  · intro La Ga ha ea hla
    have ka := fun b o q => ea.sub b o (e2.sub b o q)
    have Fa := F5.ext ea
    k_go
    refine T_attrOwn Fa.top (fun i => ((I.keeps ka).keeps i)) (by rfl) (by unfold KK; k_is) ?_
    refine ⟨((Im.keeps ka).keeps Fa.into).kept, T_C (CB_inst (K := 377) (f := 367) Fa.top (fun i => (Im.keeps ka).keeps i) (by kernel_rfl) (c367 (d := d) (tr := false) (cf := fun i j k => (-e i j k) % q) (.inr (.inl rfl)) (hA1.mono (by k_caughtB)) Fa.top (t5.ext ea) (Im.keeps ka) hla (by k_caughtB) (by k_caughtB) (by k_caughtB) fun v G' h' e' tb' I' => ?_))⟩
    refine p _ _ _ (x5.trans (ea.wk.trans e')) tb' ⟨v, La, rfl, I', ?_⟩
    exact hla.keeps e'.sub fun _ _ _ h => h.keeps e'.sub fun _ _ _ h => h.keeps e'.sub
end
end
section
theorem fillD20 : PySem.Challenge.rw_yi0068_01 = PySem.Challenge.rw_yi0068_01 ∧ hd.heap_39 = hd.heap_39 := by
  k_fill
  exact ⟨rfl, rfl⟩
section
variable {W : List Addr} {prog : Program} {w : World} {A : Around} {G h : Heap} {env : Env} {P : Value → Heap → Heap → Prop} {q : Int} {n : Nat} {r mo : Addr} {d : Nat} {a b : Addr} {D v : Value} {m l : Nat} {tr tr' : Bool} {e e' : Nat → Nat → Nat → Int} {ll lc : List (Str × Value)}

set_option maxHeartbeats 4000000 in
theorem c299 (hA : Rm A (d + 20)) (top : TopG w G) (tb : TG G h) (Im : Ins G mo 377 (modM (.ref r))) (rg : RingAt G r q n) (hq : 0 < q) (hn : n ≤ 100) (M : Mat G mo r n tr (.ref a) m l e) (M' : Mat G mo r n tr' (.ref b) m l e') (hm : 1 ≤ m ∧ m ≤ 100) (hl : 1 ≤ l ∧ l ≤ 100)
    (p : ∀ v G' h', Ext TW G h G' h' → TG G' h' → Mat G' mo r n false v m l (fun i j k => (e i j k + e' i j k) % q) → P v G' h') : C TW prog w A (.call (.ref 299) ⟨[.ref a, .ref b], []⟩) G h P := by
  obtain ⟨_, L, z, I, hL⟩ := id M
  cases z
  obtain ⟨_, L', z, I', hL'⟩ := id M'
  cases z
  refine fnC [("self", .ref a), ("other", .ref b)] [] [("self", .ref a), ("other", .ref b)] hA top (fun A1 env h1 hA1 hE F bs e1 => ?_) (by k_caught0) (by k_caught0)
  refine B_cons (B_If ?_)
  k_go
  refine ⟨Kept.type, T_type (fun i => I.keeps i) ⟨Kept.builtin, T_isiOwn top (fun i => I'.keeps i) (T_truthyB ⟨fun h => (nomatch h), fun _ => ?_⟩)⟩⟩
  refine B_nil ?_
  refine B_cons (B_If ?_)
  k_go
  refine T_attrOwn top (fun i => I.keeps i) (by rfl) (by unfold KK; k_is) ?_
  k_go
  refine T_attrOwn top (fun i => I'.keeps i) (by rfl) (by unfold KK; k_is) ?_
  refine T_neParent (d := d) (hA1.mono (by k_caughtB)) top (fun i => Im.keeps i) (T_truthyB ⟨fun h => (nomatch h), fun _ => ?_⟩)
  refine B_nil ?_
  refine B_cons (B_If ?_)
  k_go
  refine T_dim (d := d) (hA1.mono (by k_caughtB)) top M (by k_caughtB) (by k_caughtB) F.into fun tp Ga ha t u ea hva => ?_
  have Fa := F.ext ea
  k_go
  refine T_dim (d := d) (hA1.mono (by k_caughtB)) Fa.top (M'.ext ea) (by k_caughtB) (by k_caughtB) Fa.into fun tp' Gb hb t' u' eb hvb => ?_
  have Fb := Fa.ext eb
  refine T_neTup (hva.mono eb) hvb (.cons _ _ (.cons _ _ .nil)) (.cons _ _ (.cons _ _ .nil)) (by have := hA1.units; unfold cLine; omega) (T_truthyB ⟨fun h => by simp at h, fun _ => ?_⟩)
  refine B_nil ?_
  have eab := ea.trans eb
  refine B_cons ?_
  refine B_AssignTuple ?_
  k_go
  refine T_dim (d := d) (hA1.mono (by k_caughtB)) Fb.top (M.ext eab) (by k_caughtB) (by k_caughtB) Fb.into fun tp G2 h2 t u e2' hv => ?_
  have F2 := Fb.ext e2'
  have e2 := eab.trans e2'
  refine B_unpackT hA1.hd hv F2.into fun h3 e3 => ?_
  have F3 := F2.ext e3
  refine B_orderCons (B_assignName (B_storeL F3 (bs _).l (by k_all) (by kernel_rfl) fun h4 sb4 F4 => ?_))
  refine B_orderCons (B_assignName (B_storeC F4 ((bs _).c _) (by k_all) (by rw [hE]; kernel_rfl) (by kernel_rfl) fun c5 h5 hc5 sb5 F5 => ?_))
  refine B_orderNil ?_
  refine B_intro fun x5 => ?_
  have off : OffW TW env := tb.tb.off (bs [])
  have t5 : TG G2 h5 := ((((tb.ext e1).ext e2).ext e3).same sb4 off.loc).same sb5 (off.cel hc5)
  refine B_cons (B_Return_w ?_)
  k_go
  have M5 := (M.ext e2)
  have M5' := (M'.ext e2)
  refine T_methodAttr F5.top (fun i => (I.keeps e2.sub).keeps i) (by rfl) (by unfold KK; k_is) ?_
  k_go
  refine T.weak (T_Comp [("self", .ref a), ("other", .ref b), ("n", .int l u)] hA1.hd F5 (compOk_of hE (by kernel_rfl)) (.inr (by k_mem)) (by k_caught0) ?_)
  k_go
  refine ⟨Kept.type, T_range1 fun rv G6 h6 hr e6 => ?_⟩
  refine ⟨_, _, fun i row Gx => LP Gx row l (fun j x => PolyAt Gx r n x (fun k => (e i j k + e' i j k) % q)), Turns.cel hE (Iter.upto hr (by k_caughtB)) (by k_caughtB) (fun _ _ _ _ h k => h.keeps k fun _ _ _ h => h.keeps k) (by k_mem) ?_, ?_⟩
  · intro i vi cenv L7 G7 h7 hi hvi e7 hcE F7
    obtain ⟨ti, rfl⟩ := hvi
    refine T_Comp [("i", .int i ti), ("self", .ref a), ("other", .ref b)] hA1.hd F7 (compOk_of hcE (by kernel_rfl)) (.inl (by k_mem)) (by k_caught0) ?_
    k_go
    refine ⟨Kept.type, T_range1 fun rv8 G8 h8 hr8 e8 => ?_⟩
    refine ⟨_, _, fun j x Gx => PolyAt Gx r n x (fun k => (e i j k + e' i j k) % q), Turns.loc hcE (Iter.upto hr8 (by k_caughtB)) (by k_caughtB) (fun _ _ _ _ h k => h.keeps k) (by k_mem) ?_, ?_⟩
    · intro j vj cenv2 L9 G9 h9 hj hvj e9 hcE2 F9
      obtain ⟨tj, rfl⟩ := hvj
      have k9 := fun b o q => e9.sub b o (e8.sub b o (e7.sub b o (e6.sub b o q)))
      k_go
      refine T_sp2 ?_ (by rfl)
      k_go
      refine T_newTuple (by simp) fun tp G10 h10 hv10 e10 => ?_
      have F10 := F9.ext e10
      have M10 := (M5.keeps k9).ext e10
      refine T_matGet (d := d + 8) (hA1.mono (by k_caughtB)) F10 M10 (by k_caughtB) (by k_caughtB) ⟨0, hv10⟩ hi hj fun x h11 e11 hx => ?_
      have F11 := F10.ext e11
      k_go
      refine T_sp2 ?_ (by rfl)
      k_go
      refine T_newTuple (by simp) fun tp G12 h12 hv12 e12 => ?_
      have F12 := F11.ext e12
      have M12 := ((M5'.keeps k9).ext e10).ext e12
      refine T_matGet (d := d + 8) (hA1.mono (by k_caughtB)) F12 M12 (by k_caughtB) (by k_caughtB) ⟨0, hv12⟩ hi hj fun x' h13 e13 hx' => ?_
      have F13 := F12.ext e13
      exact T_polyAdd (d := d) (hA1.mono (by k_caughtB)) F13 ((((rg.ext e2).keeps k9).ext e10).ext e12) hq hn (hx.ext e12) hx' fun v G' h' e' hv => hv
    · intro La Ga ha ea hla
      exact hla
  · intro La Ga ha ea hla
    have ka := fun b o q => ea.sub b o (e2.sub b o q)
    have Fa := F5.ext ea
    k_go
    refine ⟨((Im.keeps ka).keeps Fa.into).kept, T_C (CB_inst (K := 377) (f := 367) Fa.top (fun i => (Im.keeps ka).keeps i) (by kernel_rfl) (c367 (d := d) (tr := false) (cf := fun i j k => (e i j k + e' i j k) % q) (.inr (.inl rfl)) (hA1.mono (by k_caughtB)) Fa.top (t5.ext ea) (Im.keeps ka) hla (by k_caughtB) (by k_caughtB) (by k_caughtB) fun v G' h' e' tb' I' => ?_))⟩
    refine p _ _ _ (x5.trans (ea.wk.trans e')) tb' ⟨v, La, rfl, I', ?_⟩
    exact hla.keeps e'.sub fun _ _ _ h => h.keeps e'.sub fun _ _ _ h => h.keeps e'.sub

set_option maxHeartbeats 4000000 in
theorem c311 (hA : Rm A (d + 20)) (top : TopG w G) (tb : TG G h) (Im : Ins G mo 377 (modM (.ref r))) (rg : RingAt G r q n) (hq : 0 < q) (hn : n ≤ 100) (M : Mat G mo r n tr (.ref a) m l e) (M' : Mat G mo r n tr' (.ref b) m l e') (hm : 1 ≤ m ∧ m ≤ 100) (hl : 1 ≤ l ∧ l ≤ 100)
    (p : ∀ v G' h', Ext TW G h G' h' → TG G' h' → Mat G' mo r n false v m l (fun i j k => (e i j k - e' i j k) % q) → P v G' h') : C TW prog w A (.call (.ref 311) ⟨[.ref a, .ref b], []⟩) G h P := by
  obtain ⟨_, L, z, I, hL⟩ := id M
  cases z
  obtain ⟨_, L', z, I', hL'⟩ := id M'
  cases z
  refine fnC [("self", .ref a), ("other", .ref b)] [] [("self", .ref a), ("other", .ref b)] hA top (fun A1 env h1 hA1 hE F bs e1 => ?_) (by k_caught0) (by k_caught0)
  refine B_cons (B_If ?_)
  k_go
  refine ⟨Kept.type, T_type (fun i => I.keeps i) ⟨Kept.builtin, T_isiOwn top (fun i => I'.keeps i) (T_truthyB ⟨fun h => (nomatch h), fun _ => ?_⟩)⟩⟩
  refine B_nil ?_
  refine B_cons (B_If ?_)
  k_go
  refine T_attrOwn top (fun i => I.keeps i) (by rfl) (by unfold KK; k_is) ?_
  k_go
  refine T_attrOwn top (fun i => I'.keeps i) (by rfl) (by unfold KK; k_is) ?_
  refine T_neParent (d := d) (hA1.mono (by k_caughtB)) top (fun i => Im.keeps i) (T_truthyB ⟨fun h => (nomatch h), fun _ => ?_⟩)
  refine B_nil ?_
  refine B_cons (B_If ?_)
  k_go
  refine T_dim (d := d) (hA1.mono (by k_caughtB)) top M (by k_caughtB) (by k_caughtB) F.into fun tp Ga ha t u ea hva => ?_
  have Fa := F.ext ea
  k_go
  refine T_dim (d := d) (hA1.mono (by k_caughtB)) Fa.top (M'.ext ea) (by k_caughtB) (by k_caughtB) Fa.into fun tp' Gb hb t' u' eb hvb => ?_
  have Fb := Fa.ext eb
  refine T_neTup (hva.mono eb) hvb (.cons _ _ (.cons _ _ .nil)) (.cons _ _ (.cons _ _ .nil)) (by have := hA1.units; unfold cLine; omega) (T_truthyB ⟨fun h => by simp at h, fun _ => ?_⟩)
  refine B_nil ?_
  have eab := ea.trans eb
  refine B_cons ?_
  refine B_AssignTuple ?_
  k_go
  refine T_dim (d := d) (hA1.mono (by k_caughtB)) Fb.top (M.ext eab) (by k_caughtB) (by k_caughtB) Fb.into fun tp G2 h2 t u e2' hv => ?_
  have F2 := Fb.ext e2'
  have e2 := eab.trans e2'
  refine B_unpackT hA1.hd hv F2.into fun h3 e3 => ?_
  have F3 := F2.ext e3
  refine B_orderCons (B_assignName (B_storeL F3 (bs _).l (by k_all) (by kernel_rfl) fun h4 sb4 F4 => ?_))
  refine B_orderCons (B_assignName (B_storeC F4 ((bs _).c _) (by k_all) (by rw [hE]; kernel_rfl) (by kernel_rfl) fun c5 h5 hc5 sb5 F5 => ?_))
  refine B_orderNil ?_
  refine B_intro fun x5 => ?_
  have off : OffW TW env := tb.tb.off (bs [])
  have t5 : TG G2 h5 := ((((tb.ext e1).ext e2).ext e3).same sb4 off.loc).same sb5 (off.cel hc5)
  refine B_cons (B_Return_w ?_)
  k_go
  have M5 := (M.ext e2)
  have M5' := (M'.ext e2)
  refine T_methodAttr F5.top (fun i => (I.keeps e2.sub).keeps i) (by rfl) (by unfold KK; k_is) ?_
  k_go
  refine T.weak (T_Comp [("self", .ref a), ("other", .ref b), ("n", .int l u)] hA1.hd F5 (compOk_of hE (by kernel_rfl)) (.inr (by k_mem)) (by k_caught0) ?_)
  k_go
  refine ⟨Kept.type, T_range1 fun rv G6 h6 hr e6 => ?_⟩
  refine ⟨_, _, fun i row Gx => LP Gx row l (fun j x => PolyAt Gx r n x (fun k => (e i j k - e' i j k) % q)), Turns.cel hE (Iter.upto hr (by k_caughtB)) (by k_caughtB) (fun _ _ _ _ h k => h.keeps k fun _ _ _ h => h.keeps k) (by k_mem) ?_, ?_⟩
  · intro i vi cenv L7 G7 h7 hi hvi e7 hcE F7
    obtain ⟨ti, rfl⟩ := hvi
    refine T_Comp [("i", .int i ti), ("self", .ref a), ("other", .ref b)] hA1.hd F7 (compOk_of hcE (by kernel_rfl)) (.inl (by k_mem)) (by k_caught0) ?_
    k_go
    refine ⟨Kept.type, T_range1 fun rv8 G8 h8 hr8 e8 => ?_⟩
    refine ⟨_, _, fun j x Gx => PolyAt Gx r n x (fun k => (e i j k - e' i j k) % q), Turns.loc hcE (Iter.upto hr8 (by k_caughtB)) (by k_caughtB) (fun _ _ _ _ h k => h.keeps k) (by k_mem) ?_, ?_⟩
    · intro j vj cenv2 L9 G9 h9 hj hvj e9 hcE2 F9
      obtain ⟨tj, rfl⟩ := hvj
      have k9 := fun b o q => e9.sub b o (e8.sub b o (e7.sub b o (e6.sub b o q)))
      k_go
      refine T_sp2 ?_ (by rfl)
      k_go
      refine T_newTuple (by simp) fun tp G10 h10 hv10 e10 => ?_
      have F10 := F9.ext e10
      have M10 := (M5.keeps k9).ext e10
      refine T_matGet (d := d + 8) (hA1.mono (by k_caughtB)) F10 M10 (by k_caughtB) (by k_caughtB) ⟨0, hv10⟩ hi hj fun x h11 e11 hx => ?_
      have F11 := F10.ext e11
      k_go
      refine T_sp2 ?_ (by rfl)
      k_go
      refine T_newTuple (by simp) fun tp G12 h12 hv12 e12 => ?_
      have F12 := F11.ext e12
      have M12 := ((M5'.keeps k9).ext e10).ext e12
      refine T_matGet (d := d + 8) (hA1.mono (by k_caughtB)) F12 M12 (by k_caughtB) (by k_caughtB) ⟨0, hv12⟩ hi hj fun x' h13 e13 hx' => ?_
      have F13 := F12.ext e13
      exact T_polySub (d := d) (hA1.mono (by k_caughtB)) F13 ((((rg.ext e2).keeps k9).ext e10).ext e12) hq hn (hx.ext e12) hx' fun v G' h' e' hv => hv
    · intro La Ga ha ea hla
      exact hla
  · intro La Ga ha ea hla
    have ka := fun b o q => ea.sub b o (e2.sub b o q)
    have Fa := F5.ext ea
    k_go
    refine ⟨((Im.keeps ka).keeps Fa.into).kept, T_C (CB_inst (K := 377) (f := 367) Fa.top (fun i => (Im.keeps ka).keeps i) (by kernel_rfl) (c367 (d := d) (tr := false) (cf := fun i j k => (e i j k - e' i j k) % q) (.inr (.inl rfl)) (hA1.mono (by k_caughtB)) Fa.top (t5.ext ea) (Im.keeps ka) hla (by k_caughtB) (by k_caughtB) (by k_caughtB) fun v G' h' e' tb' I' => ?_))⟩
    refine p _ _ _ (x5.trans (ea.wk.trans e')) tb' ⟨v, La, rfl, I', ?_⟩
    exact hla.keeps e'.sub fun _ _ _ h => h.keeps e'.sub fun _ _ _ h => h.keeps e'.sub
end
end
section
theorem fillD21 : PySem.Challenge.rw_yi0068_01 = PySem.Challenge.rw_yi0068_01 ∧ hd.heap_39 = hd.heap_39 := by
  k_fill
  exact ⟨rfl, rfl⟩
section
variable {W : List Addr} {prog : Program} {w : World} {A : Around} {G h : Heap} {env : Env} {P : Value → Heap → Heap → Prop} {q : Int} {n : Nat} {r mo : Addr} {d : Nat} {a b : Addr} {D v : Value} {m nn l : Nat} {tr tr' : Bool} {e e' : Nat → Nat → Nat → Int} {ll lc : List (Str × Value)}
/-- a product of two matrices, as the code reckons it -/
def mmul (q : Int) (n nn : Nat) (e e' : Nat → Nat → Nat → Int) (i j : Nat) : Nat → Int := psum q (fun k x => conv n (e i k) (e' k j) x % q) nn
def AccAt (G : Heap) (r : Addr) (n : Nat) (q : Int) (f : Nat → Nat → Int) (i : Nat) (v : Value) : Prop := (i = 0 ∧ ∃ t, v = .int 0 t) ∨ (0 < i ∧ PolyAt G r n v (psum q f i))
set_option maxHeartbeats 8000000 in
theorem c323 (hA : Rm A (d + 30)) (top : TopG w G) (tb : TG G h) (Im : Ins G mo 377 (modM (.ref r))) (rg : RingAt G r q n) (hq : 0 < q) (hn0 : 1 ≤ n) (hn : n ≤ 100) (M : Mat G mo r n tr (.ref a) m nn e) (M' : Mat G mo r n tr' (.ref b) nn l e') (hm : 1 ≤ m ∧ m ≤ 100) (hnn : 1 ≤ nn ∧ nn ≤ 100) (hl : 1 ≤ l ∧ l ≤ 100)
    (se : ∀ i j k, i < m → j < nn → k < n → Sm (e i j k)) (se' : ∀ i j k, i < nn → j < l → k < n → Sm (e' i j k))
    (p : ∀ v G' h', Ext TW G h G' h' → TG G' h' → Mat G' mo r n false v m l (mmul q n nn e e') → P v G' h') : C TW prog w A (.call (.ref 323) ⟨[.ref a, .ref b], []⟩) G h P := by
  obtain ⟨_, L, z, I, hL⟩ := id M
  cases z
  obtain ⟨_, L', z, I', hL'⟩ := id M'
  cases z
  refine fnC [("self", .ref a), ("other", .ref b)] [] [("self", .ref a), ("other", .ref b)] hA top (fun A1 env h1 hA1 hE F bs e1 => ?_) (by k_caught0) (by k_caught0)
  refine B_cons (B_If ?_)
  k_go
  refine ⟨Kept.type, T_type (fun i => I.keeps i) ⟨Kept.builtin, T_isiOwn top (fun i => I'.keeps i) (T_truthyB ⟨fun h => (nomatch h), fun _ => ?_⟩)⟩⟩
  refine B_nil ?_
  refine B_cons (B_If ?_)
  k_go
  refine T_attrOwn top (fun i => I.keeps i) (by rfl) (by unfold KK; k_is) ?_
  k_go
  refine T_attrOwn top (fun i => I'.keeps i) (by rfl) (by unfold KK; k_is) ?_
  refine T_neParent (d := d) (hA1.mono (by k_caughtB)) top (fun i => Im.keeps i) (T_truthyB ⟨fun h => (nomatch h), fun _ => ?_⟩)
  refine B_nil ?_
  refine B_cons ?_
  refine B_AssignTuple ?_
  k_go
  refine T_dim (d := d) (hA1.mono (by k_caughtB)) top M (by k_caughtB) (by k_caughtB) F.into fun tp G2 h2 t u e2 hv => ?_
  have F2 := F.ext e2
  refine B_unpackT hA1.hd hv F2.into fun h3 e3 => ?_
  have F3 := F2.ext e3
  refine B_orderCons (B_assignName (B_storeL F3 (bs _).l (by k_all) (by kernel_rfl) fun h4 sb4 F4 => ?_))
  refine B_orderCons (B_assignName (B_storeC F4 ((bs _).c _) (by k_all) (by rw [hE]; kernel_rfl) (by kernel_rfl) fun c5 h5 hc5 sb5 F5 => ?_))
  refine B_orderNil ?_
  have off : OffW TW env := tb.tb.off (bs [])
  have t5 : TG G2 h5 := ((((tb.ext e1).ext e2).ext e3).same sb4 off.loc).same sb5 (off.cel hc5)
  refine B_cons ?_
  refine B_AssignTuple ?_
  k_go
  refine T_dim (d := d) (hA1.mono (by k_caughtB)) F5.top (M'.ext e2) (by k_caughtB) (by k_caughtB) F5.into fun tp' G6 h6 t' u' e6 hv' => ?_
  have F6 := F5.ext e6
  refine B_unpackT hA1.hd hv' F6.into fun h7 e7 => ?_
  have F7 := F6.ext e7
  refine B_orderCons (B_assignName (B_storeL F7 (bs _).l (by k_all) (by kernel_rfl) fun h8 sb8 F8 => ?_))
  refine B_orderCons (B_assignName (B_storeC F8 ((bs _).c _) (by k_all) (by rw [hE]; kernel_rfl) (by kernel_rfl) fun c9 h9 hc9 sb9 F9 => ?_))
  refine B_orderNil ?_
  have t9 : TG G6 h9 := (((t5.ext e6).ext e7).same sb8 off.loc).same sb9 (off.cel hc9)
  refine B_cons (B_If ?_)
  k_go
  refine T_eqI (T_truthyB ⟨fun h => by simp at h, fun _ => ?_⟩)
  refine B_nil ?_
  refine B_intro fun x9 => ?_
  refine B_cons (B_Return_w ?_)
  k_go
  have M9 := (M.ext e2).ext e6
  have M9' := (M'.ext e2).ext e6
  have k29 := fun b o q => e6.sub b o (e2.sub b o q)
  refine T_methodAttr F9.top (fun i => ((I.keeps k29).keeps i)) (by rfl) (by unfold KK; k_is) ?_
  k_upd
  refine T_ListComp [("self", .ref a), ("other", .ref b), ("n", .int nn u), ("l", .int l u')] hA1.hd F9 (compOk_of hE (by kernel_rfl)) (.inr (by k_mem)) (by k_caught0) ?_ off
  k_go
  refine ⟨Kept.type, T_range1 fun rv G10 h10 hr e10 => ?_⟩
  refine ⟨_, _, _, fun i row Gx => LP Gx row l (fun j x => PolyAt Gx r n x (mmul q n nn e e' i j)), Turns.tbc hE (Iter.upto hr (by k_caughtB)) (by k_caughtB) (t9.ext e10).tb (fun _ _ _ _ h k => h.keeps k fun _ _ _ h => h.keeps k) (by k_mem) ?_, ?_⟩
  · intro i vi cenv L11 G11 h11 hi hvi e11 tb11 hcE off11 F11
    obtain ⟨ti, rfl⟩ := hvi
    have t11 : TG G11 h11 := (t9.ext e10).extW e11 tb11
    refine T_ListComp [("i", .int i ti), ("self", .ref a), ("other", .ref b), ("n", .int nn u)] hA1.hd F11 (compOk_of hcE (by kernel_rfl)) (.inr (by k_mem)) (by k_caught0) ?_ off11
    k_go
    refine ⟨Kept.type, T_range1 fun rv12 G12 h12 hr12 e12 => ?_⟩
    refine ⟨_, _, _, fun j x Gx => PolyAt Gx r n x (mmul q n nn e e' i j), Turns.tbc hcE (Iter.upto hr12 (by k_caughtB)) (by k_caughtB) (t11.ext e12).tb (fun _ _ _ _ h k => h.keeps k) (by k_mem) ?_, ?_⟩
    · intro j vj cenv2 L13 G13 h13 hj hvj e13 tb13 hcE2 off13 F13
      obtain ⟨tj, rfl⟩ := hvj
      have t13 : TG G13 h13 := (t11.ext e12).extW e13 tb13
      have k13 := fun b o q => e13.sub b o (e12.sub b o (e11.sub b o (e10.sub b o q)))
      refine T_sumGen (lc' := [("j", .int j tj), ("i", .int i ti), ("self", .ref a), ("other", .ref b)]) (d := d + 20) (c := 322) (Pt := 320) (hA1.mono (by k_caughtB)) F13 off13 (gOk_of hcE2 (by kernel_rfl)) (code_of hcE2 rfl) (codeHd_of_K F13.top.k (by kernel_rfl)) (by simp [TW]) t13.tb (t13.off _ (by simp [TW])) (by rfl) (by k_caught0) (by k_all) (by unfold KK; k_is) ?_
      k_go
      refine ⟨Kept.type, T_range1 fun rv14 G14 h14 hr14 e14 => ?_⟩
      refine ⟨nn, _, fun k v G => PolyAt G r n v (fun x => conv n (e i k) (e' k j) x % q), fun k v G => AccAt G r n q (fun k x => conv n (e i k) (e' k j) x % q) k v, Iter.upto hr14 (by k_caughtB), ?_, ?_, ?_, ?_, ?_, ?_, ?_, ?_⟩
      · intro A2 k vk G15 h15 C code hA2 hk hvk s15 F15
        obtain ⟨tk, rfl⟩ := hvk
        generalize hcE3 : gEnv _ cenv2 C code = cenv3 at F15 ⊢
        have hcE3 := hcE3.symm
        have k15 := fun b o q => s15 b o (e14.sub b o (k13 b o q))
        k_updF
        refine T_sp2 ?_ (by rfl)
        k_updF
        refine T_newTuple (by simp) fun tp G16 h16 hv16 e16 => ?_
        have F16 := F15.ext e16
        have M16 := (M9.keeps k15).ext e16
        refine T_matGet (d := d + 8) (hA2.mono (by k_caughtB)) F16 M16 (by k_caughtB) (by k_caughtB) ⟨0, hv16⟩ hi hk fun x h17 e17 hx => ?_
        have F17 := F16.ext e17
        k_updF
        refine T_sp2 ?_ (by rfl)
        k_updF
        refine T_newTuple (by simp) fun tp G18 h18 hv18 e18 => ?_
        have F18 := F17.ext e18
        have M18 := ((M9'.keeps k15).ext e16).ext e18
        refine T_matGet (d := d + 8) (hA2.mono (by k_caughtB)) F18 M18 (by k_caughtB) (by k_caughtB) ⟨0, hv18⟩ hk hj fun x' h19 e19 hx' => ?_
        have F19 := F18.ext e19
        exact T_polyMul (d := d) (hA2.mono (by k_caughtB)) F19 (((((rg.ext e2).ext e6).keeps k15).ext e16).ext e18) hq hn0 hn (hx.ext e18) hx' (fun x hx => se _ _ _ hi hk hx) (fun x hx => se' _ _ _ hk hj hx) fun v G' h' e' hv => hv
      · exact fun _ _ _ _ k h => h.keeps k
      · exact fun _ _ _ _ k h => h.imp id fun h => ⟨h.1, h.2.keeps k⟩
      · rintro k v G ⟨a, _, rfl, _⟩; exact ⟨a, rfl⟩
      · rintro k v G hk (h | ⟨_, a, _, rfl, _⟩)
        · omega
        · exact ⟨a, rfl⟩
      · exact fun t G => .inl ⟨rfl, t, rfl⟩
      · intro A2 k acc v G15 h15 hA2 hk s15 F15 hacc hv
        have k15 := fun b o q => s15 b o (e14.sub b o (k13 b o q))
        have rg15 := ((rg.ext e2).ext e6).keeps k15
        rcases hacc with ⟨rfl, t, rfl⟩ | ⟨hk0, hacc⟩
        · exact T_polyRadd (d := d) (hA2.mono (by k_caughtB)) F15.top rg15 hq hn0 hn hv (fun x hx => Int.emod_emod _ _) fun v G' h' e' hv => .inr ⟨by omega, hv⟩
        · exact T_polyAdd (d := d) (hA2.mono (by k_caughtB)) F15 rg15 hq hn hacc hv fun v G' h' e' hv => .inr ⟨by omega, hv⟩
      · rintro v G' h' e' tb' (h | ⟨_, h⟩)
        · omega
        · exact ⟨h, tb'⟩
    · intro La Ga ha ea eb hla tb'
      exact ⟨hla, tb'⟩
  · intro La Ga ha ea eb hla tb'
    have ka := fun b o q => eb.sub b o (k29 b o q)
    have Fa := F9.ext eb off
    refine ⟨((Im.keeps ka).keeps Fa.into).kept, T_C (CB_inst (K := 377) (f := 367) Fa.top (fun i => (Im.keeps ka).keeps i) (by kernel_rfl) (c367 (d := d) (tr := false) (cf := mmul q n nn e e') (.inr (.inr ⟨rfl, rfl⟩)) (hA1.mono (by k_caughtB)) Fa.top (t9.extW eb tb') (Im.keeps ka) hla (by k_caughtB) (by k_caughtB) (by k_caughtB) fun v G' h' e' tb' I' => ?_))⟩
    refine p _ _ _ (x9.trans (eb.trans e')) tb' ⟨v, La, rfl, I', ?_⟩
    exact hla.keeps e'.sub fun _ _ _ h => h.keeps e'.sub fun _ _ _ h => h.keeps e'.sub
end
end
section
theorem fillD22 : PySem.Challenge.rw_yi0068_01 = PySem.Challenge.rw_yi0068_01 ∧ hd.heap_39 = hd.heap_39 := by
  k_fill
  exact ⟨rfl, rfl⟩
section
variable {W : List Addr} {prog : Program} {w : World} {A : Around} {G h : Heap} {env : Env} {P : Value → Heap → Heap → Prop} {q : Int} {n : Nat} {r mo : Addr} {d : Nat} {a b : Addr} {D u v : Value} {m l : Nat} {tr tr' : Bool} {e e' : Nat → Nat → Nat → Int} {ll lc : List (Str × Value)}
set_option maxHeartbeats 4000000 in
theorem c289 (hA : Rm A (d + 20)) (top : TopG w G) (M : Mat G mo r n tr (.ref a) m l e) (M' : Mat G mo r n tr' (.ref b) m l e') (hm : 1 ≤ m ∧ m ≤ 30) (hl : 1 ≤ l ∧ l ≤ 30)
    (he : ∀ i j, i < m → j < l → rng n (e i j) = rng n (e' i j))
    (p : ∀ G' h', Ext [] G h G' h' → P (.bool true) G' h') : C [] prog w A (.call (.ref 289) ⟨[.ref a, .ref b], []⟩) G h P := by
  refine fnC [("self", .ref a), ("other", .ref b)] [] [("self", .ref a), ("other", .ref b)] hA top (fun A1 env h1 hA1 hE F bs e1 => ?_) (by k_caught0) (by k_caught0)
  refine B_cons (B_If ?_)
  k_go
  refine T_dim (d := d) (hA1.mono (by k_caughtB)) top M (by k_caughtB) (by k_caughtB) F.into fun tp Ga ha t u ea hva => ?_
  have Fa := F.ext ea
  k_go
  refine T_dim (d := d) (hA1.mono (by k_caughtB)) Fa.top (M'.ext ea) (by k_caughtB) (by k_caughtB) Fa.into fun tp' Gb hb t' u' eb hvb => ?_
  have Fb := Fa.ext eb
  refine T_neTup (hva.mono eb) hvb (.cons _ _ (.cons _ _ .nil)) (.cons _ _ (.cons _ _ .nil)) (by have := hA1.units; unfold cLine; omega) (T_truthyB ⟨fun h => by simp at h, fun _ => ?_⟩)
  refine B_nil ?_
  have eab := ea.trans eb
  refine B_cons ?_
  refine B_AssignTuple ?_
  k_go
  refine T_dim (d := d) (hA1.mono (by k_caughtB)) Fb.top (M.ext eab) (by k_caughtB) (by k_caughtB) Fb.into fun tp G2 h2 t u e2' hv => ?_
  have F2 := Fb.ext e2'
  have e2 := eab.trans e2'
  refine B_unpackT hA1.hd hv F2.into fun h3 e3 => ?_
  have F3 := F2.ext e3
  refine B_orderCons (B_assignName (B_storeL F3 (bs _).l (by k_all) (by kernel_rfl) fun h4 sb4 F4 => ?_))
  refine B_orderCons (B_assignName (B_storeC F4 ((bs _).c _) (by k_all) (by rw [hE]; kernel_rfl) (by kernel_rfl) fun c5 h5 hc5 sb5 F5 => ?_))
  refine B_orderNil ?_
  refine B_intro fun x5 => ?_
  refine B_cons (B_Return ?_)
  k_go
  have M5 := (M.ext e2)
  have M5' := (M'.ext e2)
  refine T_Comp2 [("self", .ref a), ("other", .ref b), ("n", .int l u)] hA1.hd F5 (compOk_of hE (by kernel_rfl)) (by k_mem) (by k_mem) (by decide) (by k_caught0) ?_
  k_go
  refine ⟨Kept.type, T_range1 fun rv G6 h6 hr e6 => ?_⟩
  refine ⟨_, _, Iter.upto hr (by k_caughtB), by omega, ?_, ?_⟩
  · intro i vi L7 G7 h7 hi hvi s7 F7
    obtain ⟨ti, rfl⟩ := hvi
    generalize hcE : compEnv _ env L7 = cenv at F7 ⊢
    have hcE := hcE.symm
    rw [hE] at hcE
    k_go
    refine ⟨Kept.type, T_range1 fun rv8 G8 h8 hr8 e8 => ?_⟩
    refine ⟨_, _, by omega, Iter.upto hr8 (by k_caughtB), ?_⟩
    intro j vj G9 h9 hj hvj s9 F9
    obtain ⟨tj, rfl⟩ := hvj
    have k9 := fun b o q => s9 b o (e8.sub b o (s7 b o (e6.sub b o q)))
    k_go
    refine T_sp2 ?_ (by rfl)
    k_go
    refine T_newTuple (by simp) fun tp G10 h10 hv10 e10 => ?_
    have F10 := F9.ext e10
    have M10 := (M5.keeps k9).ext e10
    refine T_matGet (d := d + 8) (hA1.mono (by k_caughtB)) F10 M10 (by k_caughtB) (by k_caughtB) ⟨0, hv10⟩ hi hj fun x h11 e11 hx => ?_
    have F11 := F10.ext e11
    k_go
    refine T_sp2 ?_ (by rfl)
    k_go
    refine T_newTuple (by simp) fun tp G12 h12 hv12 e12 => ?_
    have F12 := F11.ext e12
    have M12 := ((M5'.keeps k9).ext e10).ext e12
    refine T_matGet (d := d + 8) (hA1.mono (by k_caughtB)) F12 M12 (by k_caughtB) (by k_caughtB) ⟨0, hv12⟩ hi hj fun x' h13 e13 hx' => ?_
    have F13 := F12.ext e13
    exact T_polyEq (d := d) (hA1.mono (by k_caughtB)) F13 (hx.ext e12) hx' fun h' e' => by simp [he i j hi hj]
  · intro La Ga ha ys ea hla hT _
    refine ⟨Kept.builtin, T_allTrue hA1.hd hla hT fun h' e' => ?_⟩
    exact p _ _ (x5.trans (ea.trans e'))
theorem T_matEq (hA : Rm A (d + 20)) (F : Fm w env G h ll lc) (M : Mat G mo r n tr u m l e) (M' : Mat G mo r n tr' v m l e') (hm : 1 ≤ m ∧ m ≤ 30) (hl : 1 ≤ l ∧ l ≤ 30)
    (he : ∀ i j, i < m → j < l → rng n (e i j) = rng n (e' i j))
    (p : ∀ G' h', Ext [] G h G' h' → P (.bool true) G' h') : T [] prog w A (compareOp .Eq u v) G h P := by
  obtain ⟨a, L, rfl, I, hL⟩ := id M
  obtain ⟨b, L', rfl, I', hL'⟩ := id M'
  exact T_cmpOwn hA F (fun i => I.keeps i) (fun i => (I'.keeps i).typeOf) (by kernel_rfl) (by kernel_rfl) (T_C (c289 hA F.top M M' hm hl he fun G' h' e => ⟨(by intro h; cases h), p G' h' e⟩))
end
end
section
theorem fillD23 : PySem.Challenge.rw_yi0068_01 = PySem.Challenge.rw_yi0068_01 ∧ hd.heap_39 = hd.heap_39 := by
  k_fill
  exact ⟨rfl, rfl⟩
section
variable {W : List Addr} {prog : Program} {w : World} {A : Around} {G h : Heap} {env : Env} {P : Value → Heap → Heap → Prop} {q : Int} {n : Nat} {r mo : Addr} {d : Nat} {a b : Addr} {D u v : Value} {m nn l : Nat} {tr tr' : Bool} {e e' : Nat → Nat → Nat → Int} {ll lc : List (Str × Value)}
theorem Mat.ref {G : Heap} (M : Mat G mo r n tr v m l e) : ∃ a, v = .ref a := let ⟨a, _, e, _⟩ := M; ⟨a, e⟩
theorem T_matAdd (hA : Rm A (d + 20)) (F : Fm w env G h ll lc) (tb : TG G h) (Im : Ins G mo 377 (modM (.ref r))) (rg : RingAt G r q n) (hq : 0 < q) (hn : n ≤ 100) (M : Mat G mo r n tr u m l e) (M' : Mat G mo r n tr' v m l e') (hm : 1 ≤ m ∧ m ≤ 100) (hl : 1 ≤ l ∧ l ≤ 100)
    (p : ∀ v G' h', Ext TW G h G' h' → TG G' h' → Mat G' mo r n false v m l (fun i j k => (e i j k + e' i j k) % q) → P v G' h') : T TW prog w A (binaryOp .Add u v) G h P := by
  obtain ⟨a, L, rfl, I, hL⟩ := id M
  obtain ⟨b, L', rfl, I', hL'⟩ := id M'
  refine T_binOwn F (fun i => I.keeps i) (fun i => (I'.keeps i).typeOf) (by kernel_rfl) (T_C (c299 hA F.top tb Im rg hq hn M M' hm hl fun v G' h' e t hv => ⟨?_, p v G' h' e t hv⟩))
  obtain ⟨_, rfl⟩ := hv.ref; intro h; cases h
theorem T_matSub (hA : Rm A (d + 20)) (F : Fm w env G h ll lc) (tb : TG G h) (Im : Ins G mo 377 (modM (.ref r))) (rg : RingAt G r q n) (hq : 0 < q) (hn : n ≤ 100) (M : Mat G mo r n tr u m l e) (M' : Mat G mo r n tr' v m l e') (hm : 1 ≤ m ∧ m ≤ 100) (hl : 1 ≤ l ∧ l ≤ 100)
    (p : ∀ v G' h', Ext TW G h G' h' → TG G' h' → Mat G' mo r n false v m l (fun i j k => (e i j k - e' i j k) % q) → P v G' h') : T TW prog w A (binaryOp .Sub u v) G h P := by
  obtain ⟨a, L, rfl, I, hL⟩ := id M
  obtain ⟨b, L', rfl, I', hL'⟩ := id M'
  refine T_binOwn F (fun i => I.keeps i) (fun i => (I'.keeps i).typeOf) (by kernel_rfl) (T_C (c311 hA F.top tb Im rg hq hn M M' hm hl fun v G' h' e t hv => ⟨?_, p v G' h' e t hv⟩))
  obtain ⟨_, rfl⟩ := hv.ref; intro h; cases h
theorem T_matMul (hA : Rm A (d + 30)) (F : Fm w env G h ll lc) (tb : TG G h) (Im : Ins G mo 377 (modM (.ref r))) (rg : RingAt G r q n) (hq : 0 < q) (hn0 : 1 ≤ n) (hn : n ≤ 100) (M : Mat G mo r n tr u m nn e) (M' : Mat G mo r n tr' v nn l e') (hm : 1 ≤ m ∧ m ≤ 100) (hnn : 1 ≤ nn ∧ nn ≤ 100) (hl : 1 ≤ l ∧ l ≤ 100)
    (se : ∀ i j k, i < m → j < nn → k < n → Sm (e i j k)) (se' : ∀ i j k, i < nn → j < l → k < n → Sm (e' i j k))
    (p : ∀ v G' h', Ext TW G h G' h' → TG G' h' → Mat G' mo r n false v m l (mmul q n nn e e') → P v G' h') : T TW prog w A (binaryOp .MatMult u v) G h P := by
  obtain ⟨a, L, rfl, I, hL⟩ := id M
  obtain ⟨b, L', rfl, I', hL'⟩ := id M'
  refine T_binOwn F (fun i => I.keeps i) (fun i => (I'.keeps i).typeOf) (by kernel_rfl) (T_C (c323 hA F.top tb Im rg hq hn0 hn M M' hm hnn hl se se' fun v G' h' e t hv => ⟨?_, p v G' h' e t hv⟩))
  obtain ⟨_, rfl⟩ := hv.ref; intro h; cases h
theorem T_matNeg (hA : Rm A (d + 20)) (F : Fm w env G h ll lc) (tb : TG G h) (Im : Ins G mo 377 (modM (.ref r))) (rg : RingAt G r q n) (hq : 0 < q) (hn : n ≤ 100) (M : Mat G mo r n false u m l e) (hm : 1 ≤ m ∧ m ≤ 100) (hl : 1 ≤ l ∧ l ≤ 100)
    (p : ∀ v G' h', Ext TW G h G' h' → TG G' h' → Mat G' mo r n false v m l (fun i j k => (-e i j k) % q) → P v G' h') : T TW prog w A (unaryOp .USub u) G h P := fun s hs hi => by
  obtain ⟨a, L, rfl, I, hL⟩ := id M
  have z := (T_C (prog := prog) (c294 hA F.top tb Im rg hq hn M hm hl p)) s hs hi
  subst hs
  obtain ⟨dx, od, I, _, _⟩ := (I.keeps hi).at_
  obtain ⟨H, _, fr, X⟩ := F.fr
  exact ksp_neg fr X I (by kernel_rfl) (by kernel_rfl) z
/-- A.transpose() -/
theorem T_transpose {pl : Sem Bool} {pos : Pos} (hA : Rm A (d + 12)) (top : TopG w G) (tb : TG G h) (Im : Ins G mo 377 (modM (.ref r))) (M : Mat G mo r n tr v m l e) (hm : 1 ≤ m ∧ m ≤ 1000) (hl : 1 ≤ l ∧ l ≤ 1000) (hi : In G h)
    (p : ∀ v G' h', Ext TW G h G' h' → TG G' h' → Mat G' mo r n (!tr) v l m (fun i j => e j i) → P v G' h') :
    T TW prog w A (getMethod v "transpose" pl) G h (fun fx G2 h2 => T TW prog w A (callWith pos fx.1 fx.2 (backTo pos (starEach [] env)) (backToKw pos (keywordEach [] env))) G2 h2 P) := by
  obtain ⟨a, L, rfl, I, hL⟩ := id M
  refine T_methodOwn top (fun i => I.keeps i) (by kernel_rfl) (by unfold KK; k_is) ?_
  refine T_cw0 ?_
  exact ⟨Kept.ofK (top.k.keeps hi) (by kernel_rfl), T_C (c262 hA top tb Im M hm hl p)⟩
end
end
section
theorem fillD24 : PySem.Challenge.rw_yi0068_01 = PySem.Challenge.rw_yi0068_01 ∧ hd.heap_39 = hd.heap_39 := by
  k_fill
  exact ⟨rfl, rfl⟩
/-- the k-th number that the law draws -/
def draw (c : Nat → Int) (N k : Nat) : Int := if k < N then c k else ((k : Int) * k * 13 + k * 29 + 5) % 101 - 40
def StAt (h : Heap) (st : Addr) (sc : Value) (k : Nat) : Prop := ∃ t, LAt h st [sc, .int k t]
theorem StAt.keep {h h' : Heap} {st : Addr} {sc : Value} {k : Nat} (x : StAt h st sc k) (e : ∀ o, h.get? st = some o → h'.get? st = some o) : StAt h' st sc k := let ⟨t, n, q⟩ := x; ⟨t, n, e _ q⟩
theorem StAt.live {h : Heap} {st : Addr} {sc : Value} {k : Nat} (x : StAt h st sc k) : ∃ o, h.get? st = some o := let ⟨t, n, q⟩ := x; ⟨_, q⟩
/-- the script: a list of N whole numbers, of whose object nothing else is known -/
def SL (G : Heap) (a : Addr) (N : Nat) (c : Nat → Int) : Prop := ∃ vs : List Value, G.IsList a vs.toArray ∧ vs.length = N ∧ ∀ i x, vs[i]? = some x → intIs c i x
theorem SL.keeps {G G' : Heap} {a : Addr} {N : Nat} {c : Nat → Int} (x : SL G a N c) (k : ∀ b o, G.get? b = some o → G'.get? b = some o) : SL G' a N c := let ⟨vs, ⟨o, e, r⟩, p⟩ := x; ⟨vs, ⟨o, k _ _ e, r⟩, p⟩
section
variable {W : List Addr} {prog : Program} {w : World} {A : Around} {G h : Heap} {P : Value → Heap → Heap → Prop} {N : Nat} {c : Nat → Int} {sc : Addr}
theorem T_lenS (hc : SL G sc N c) (hz : N ≤ 1000) (p : ∀ t, P (.int N t) G h) : T W prog w A (call (.builtin "len") [.ref sc] []) G h P := by
  obtain ⟨vs, hl, rfl, _⟩ := hc
  exact T_lenH (fun hi => let ⟨o, e, r⟩ := hl; ⟨o, hi _ _ e, r⟩) (by k_caughtB) p
theorem T_itemS {value slice : Expr} {i : Nat} {k : Int} {t : Tok} (hc : SL G sc N c) (hk : k = i) (hi : i < N) (hz : N ≤ 1000) (p : ∀ tk, P (.int (c i) tk) G h)
    (hs : subscripted slice false (.ref sc) (.int k t) = operate [.ref sc, .int k t] (getItem (.ref sc) (.int k t)) := by with_unfolding_all rfl) : T W prog w A (subscriptTail value slice (.ref sc) (.int k t)) G h P := fun s hs' hin => by
  subst hs'
  obtain ⟨vs, hl, rfl, hf⟩ := hc
  have hl : s.heap.IsList sc vs.toArray := let ⟨o, e, r⟩ := hl; ⟨o, hin _ _ e, r⟩
  obtain ⟨tk, e⟩ := hf i _ (List.getElem?_eq_getElem hi)
  exact tail_any hl.typeIs slot_list_getitem.lookup (wpAny_getItem_list (x := .int (c i) tk) hl (by k_caughtB) (by k_caughtB) (by rw [hk]; simp [List.getElem?_eq_getElem hi, e]) ⟨G, Ext.refl hin, GO.refl _, p tk⟩) hs
end
section
variable {W : List Addr} {prog : Program} {w : World} {A : Around} {G h : Heap} {env : Env} {P : Value → Heap → Heap → Prop} {d N k : Nat} {c : Nat → Int} {st sc : Addr}
theorem c388 (hA : Rm A (d + 3)) (top : TopG w G) (hc : SL G sc N c) (hN : N ≤ 63) (hk : k ≤ 1000) (S : StAt h st (.ref sc) k) (oS : G.get? st = none)
    (p : ∀ tk h', Ext [st] G h G h' → StAt h' st (.ref sc) (k + 1) → P (.int (draw c N k) tk) G h') : C [st] prog w A (.call (.ref 388) ⟨[.ref st], []⟩) G h P := by
  refine fnL [("state", .ref st)] hA top fun A1 env h1 hA1 hE F bs e1 => ?_
  have S1 := S.keep (e1.keep0 _)
  obtain ⟨t1, l1⟩ := id S1
  refine B_cons ?_
  refine B_Assign (by rfl) ?_
  k_go
  refine T_itemH (fun _ => l1) (i := 1) rfl rfl (by simp) ?_
  refine B_storeL F (bs _).l (by k_all) (by kernel_rfl) fun h2 sb2 F2 => ?_
  have ne2 : st ≠ env.locals := fun z => by
    have d : Dead h env.locals := (bs []).l.elim (fun m => by cases m) id
    obtain ⟨o, q⟩ := S.live
    rw [z, show h.get? env.locals = none from d] at q; cases q
  have l2 : LAt h2 st _ := l1.imp fun _ q => sb2.extBut _ _ ne2 q
  refine B_cons ?_
  refine B_AssignSub ?_ (by rfl)
  k_go
  refine T_add fun t3 => ?_
  k_go
  refine B_setItem l2 (i := 1) rfl (by simp) (by simp) oS (.inl (by simp)) fun h3 l3 sb3 in3 => ?_
  have F3 := F2.upd (bs []) S.live sb3 in3
  have l3 : LAt h3 st [.ref sc, .int ((k : Int) + 1) t3] := l3
  refine B_cons (B_If ?_)
  k_go
  refine T_itemH (fun _ => l3) (i := 0) rfl rfl (by simp) ?_
  refine ⟨Kept.builtin, T_lenS hc (by k_caughtB) fun t4 => ?_⟩
  refine T_ltI (T_truthyB ⟨fun hlt => ?_, fun hlt => ?_⟩)
  · have hlt : k < N := by simpa using hlt
    refine B_intro fun x => B_cons (B_Return ?_)
    k_go
    refine T_itemH (fun _ => l3) (i := 0) rfl rfl (by simp) ?_
    k_go
    refine T_itemS hc (i := k) rfl hlt (by k_caughtB) fun tv => ?_
    have := p tv h3 x ⟨t3, l3⟩
    rwa [show draw c N k = c k from if_pos hlt] at this
  · have hlt : ¬ k < N := by simpa using hlt
    refine B_nil (B_intro fun x => B_cons (B_Return ?_))
    have b64 : Builtin.Int.intBits (k : Int) ≤ 64 := intBits_le_64 (by k_caughtB) (by k_caughtB)
    k_go
    refine T_mul (IntMulOk.of_left b64) fun _ => ?_
    k_go
    refine T_mul (IntMulOk.of_right (by decide)) fun _ => ?_
    k_go
    refine T_mul (IntMulOk.of_left b64) fun _ => ?_
    refine T_add fun _ => ?_
    k_go
    refine T_add fun _ => ?_
    k_go
    refine T_mod (by decide) fun _ => ?_
    k_go
    refine T_sub fun tv => ?_
    have := p tv h3 x ⟨t3, l3⟩
    rwa [show draw c N k = _ from if_neg hlt] at this
end
end
section
theorem fillD25 : PySem.Challenge.rw_yi0068_01 = PySem.Challenge.rw_yi0068_01 ∧ hd.heap_39 = hd.heap_39 := by
  k_fill
  exact ⟨rfl, rfl⟩
/-- a grid: R rows of C lists of n whole numbers -/
def GridAt (G : Heap) (v : Value) (R C n : Nat) (g : Nat → Nat → Nat → Int) : Prop := LP G v R (fun i row => LP G row C (fun j x => IL G x n (g i j)))
theorem GridAt.keeps {G G' : Heap} {v : Value} {R C n : Nat} {g : Nat → Nat → Nat → Int} (x : GridAt G v R C n g) (k : ∀ b o, G.get? b = some o → G'.get? b = some o) : GridAt G' v R C n g := LP.keeps x k fun _ _ _ h => h.keeps k fun _ _ _ h => h.keeps k
section
variable {W : List Addr} {prog : Program} {w : World} {A : Around} {G h : Heap} {env : Env} {P : Value → Heap → Heap → Prop} {d N k : Nat} {c : Nat → Int} {st sc : Addr}
theorem StAt.off {v : Value} (S : StAt h st v k) (bs : Bs [] h env) : OffW [st] env := fun a ha => by
  obtain ⟨o, q⟩ := S.live
  have ha : a = st := by simpa using ha
  subst ha
  refine ⟨fun e => ?_, fun n c hc e => ?_⟩
  · have d : Dead h env.locals := bs.l.elim (fun m => by cases m) id
    rw [e, show h.get? env.locals = none from d] at q; cases q
  · have d : Dead h c := (bs.c n c hc).elim (fun m => by cases m) id
    rw [e, show h.get? c = none from d] at q; cases q
theorem Turns.stt {sv : Value} {f : Nat → Nat} {scope : Scope} {e₁ : Env} {lc' : List (Str × Value)} {x : Str} {elt : Expr} {xv : Value} {n : Nat} {Pv : Nat → Value → Prop} {Fi : Nat → Value → Heap → Prop} (hE : env = e₁) (it : Iter prog w G xv n Pv) (small : n ≤ 1000) (S : StAt h st sv (f 0))
    (mono : ∀ i y Ga Gb, Fi i y Ga → (∀ b o, Ga.get? b = some o → Gb.get? b = some o) → Fi i y Gb) (hx : (x, NameKind.local) ∈ scope.names)
    (turn : ∀ i v cenv L Ga ha, i < n → Pv i v → Ext [st] G h Ga ha → StAt ha st sv (f i) → cenv = compEnv scope e₁ L → OffW [st] cenv → Fm w cenv Ga ha [(x, v)] lc' → T [st] prog w A (eval elt cenv) Ga ha (fun u Gb hb => Fi i u Gb ∧ StAt hb st sv (f (i + 1)))) :
    Turns [st] prog w A scope env lc' x elt G h xv n Pv (fun i h => StAt h st sv (f i)) Fi :=
  ⟨it, small, S, (fun _ _ _ t k => t.keep fun o q => k st (by simp) o q), (fun a m => (List.mem_singleton.mp m) ▸ S.live), mono, fun i v L Ga ha hi hv e t f1 _ o => turn i v _ L Ga ha hi hv e t (by rw [hE]) o (f1 hx)⟩
set_option maxHeartbeats 2000000 in
theorem c393 {rows cols n : Nat} {t1 t2 t3 : Tok} (hA : Rm A (d + 6)) (top : TopG w G) (hc : SL G sc N c) (hN : N ≤ 63) (hr : rows ≤ 10) (hcl : cols ≤ 10) (hn : n ≤ 3) (hk : k ≤ 500) (S : StAt h st (.ref sc) k) (oS : G.get? st = none)
    (p : ∀ v G' h', Ext [st] G h G' h' → StAt h' st (.ref sc) (k + rows * cols * n) → GridAt G' (.ref v) rows cols n (fun i j x => draw c N (k + (i * cols + j) * n + x)) → P (.ref v) G' h') :
    C [st] prog w A (.call (.ref 393) ⟨[.ref st, .int rows t1, .int cols t2, .int n t3], []⟩) G h P := by
  refine fnC [("state", .ref st), ("rows", .int rows t1), ("cols", .int cols t2), ("n", .int n t3)] [("rows", .int rows t1)] [("state", .ref st), ("cols", .int cols t2), ("n", .int n t3)] hA top (fun A1 env h1 hA1 hE F bs e1 => ?_) (by k_caught0) (by k_caught0)
  have S1 := S.keep (e1.keep0 _)
  have off : OffW [st] env := S.off (bs [])
  refine B_cons (B_Return_w ?_)
  refine T_ListComp [("state", .ref st), ("cols", .int cols t2), ("n", .int n t3)] hA1.hd F (compOk_of hE (by kernel_rfl)) (.inl (by k_mem)) (by k_caught0) ?_ off
  k_go
  refine ⟨Kept.type, T_range1 fun rv G2 h2 hr2 e2 => ?_⟩
  refine ⟨_, _, _, fun i row Gx => LP Gx row cols (fun j x => IL Gx x n (fun y => draw c N (k + (i * cols + j) * n + y))), Turns.stt (sv := .ref sc) (f := fun i => k + i * cols * n) hE (Iter.upto hr2 (by k_caughtB)) (by k_caughtB) (by simpa using S1.keep (e2.keep0 _)) (fun _ _ _ _ h k => h.keeps k fun _ _ _ h => h.keeps k) (by k_mem) ?_, ?_⟩
  · intro i vi cenv L3 G3 h3 hi hvi e3 S3 hcE off3 F3
    have oS3 : G3.get? st = none := off_ext e3 (off_ext e2 oS S1.live) (S1.keep (e2.keep0 _)).live
    refine T_ListComp [("state", .ref st), ("n", .int n t3)] hA1.hd F3 (compOk_of hcE (by kernel_rfl)) (.inl (by k_mem)) (by k_caught0) ?_ off3
    k_go
    refine ⟨Kept.type, T_range1 fun rv4 G4 h4 hr4 e4 => ?_⟩
    refine ⟨_, _, _, fun j x Gx => IL Gx x n (fun y => draw c N (k + (i * cols + j) * n + y)), Turns.stt (sv := .ref sc) (f := fun j => k + (i * cols + j) * n) hcE (Iter.upto hr4 (by k_caughtB)) (by k_caughtB) (by simpa using S3.keep (e4.keep0 _)) (fun _ _ _ _ h k => h.keeps k) (by k_mem) ?_, ?_⟩
    · intro j vj cenv2 L5 G5 h5 hj hvj e5 S5 hcE2 off5 F5
      have oS5 : G5.get? st = none := off_ext e5 (off_ext e4 oS3 S3.live) (S3.keep (e4.keep0 _)).live
      refine T_ListComp [("state", .ref st)] hA1.hd F5 (compOk_of hcE2 (by kernel_rfl)) (.inl (by k_mem)) (by k_caught0) ?_ off5
      k_go
      refine ⟨Kept.type, T_range1 fun rv6 G6 h6 hr6 e6 => ?_⟩
      refine ⟨_, _, _, fun y x _ => intIs (fun y => draw c N (k + (i * cols + j) * n + y)) y x, Turns.stt (sv := .ref sc) (f := fun y => k + (i * cols + j) * n + y) hcE2 (Iter.upto hr6 (by k_caughtB)) (by k_caughtB) (by simpa using S5.keep (e6.keep0 _)) (fun _ _ _ _ h k => h) (by k_mem) ?_, ?_⟩
      · intro y vy cenv3 L7 G7 h7 hy hvy e7 S7 hcE3 off7 F7
        have oS7 : G7.get? st = none := off_ext e7 (off_ext e6 oS5 S5.live) (S5.keep (e6.keep0 _)).live
        have k7 := fun b o q => e7.sub b o (e6.sub b o (e5.sub b o (e4.sub b o (e3.sub b o (e2.sub b o q)))))
        have bd : k + (i * cols + j) * n + y ≤ 1000 := by
          have h1 : i * cols ≤ 10 * 10 := Nat.mul_le_mul (by k_caughtB) hcl
          have h2 : (i * cols + j) * n ≤ 110 * 3 := Nat.mul_le_mul (by k_caughtB) hn
          omega
        k_go
        exact ⟨Kept.ofK (F7.top.k.keeps F7.into) (by kernel_rfl), T_C (c388 (d := d) (hA1.mono (by k_caughtB)) F7.top (hc.keeps k7) hN bd S7 oS7 fun tk h' e' S' => ⟨⟨tk, rfl⟩, S'⟩)⟩
      · intro a Ga ha _ ea hla hst
        refine ⟨hla, ?_⟩
        have : k + (i * cols + j) * n + n = k + (i * cols + (j + 1)) * n := by rw [← Nat.add_assoc, Nat.succ_mul, Nat.add_assoc]
        rw [← this]; exact hst
    · intro a Ga ha _ ea hla hst
      refine ⟨hla, ?_⟩
      have : k + (i * cols + cols) * n = k + (i + 1) * cols * n := by rw [Nat.succ_mul]
      rw [← this]; exact hst
  · intro a Ga ha _ ea hla hst
    exact p a Ga ha (e1.wk.trans ea) hst hla
end
end
section
theorem fillD26 : PySem.Challenge.rw_yi0068_01 = PySem.Challenge.rw_yi0068_01 ∧ hd.heap_39 = hd.heap_39 := by
  k_fill
  exact ⟨rfl, rfl⟩
section
variable {W : List Addr} {prog : Program} {w : World} {A : Around} {G h : Heap} {env : Env} {P : Value → Heap → Heap → Prop} {q : Int} {n : Nat} {r mo : Addr} {d : Nat} {D u v gv : Value} {m l R C' : Nat} {tr : Bool} {e g : Nat → Nat → Nat → Int}
/-- the module called as a value -/
theorem cM {L : Addr} {args : Args} (hargs : (args = ⟨[.ref L], [("transpose", .bool tr)]⟩) ∨ (args = ⟨[.ref L, .bool tr], []⟩) ∨ (args = ⟨[.ref L], []⟩ ∧ tr = false)) (hA : Rm A (d + 10)) (top : TopG w G) (tb : TG G h) (Im : Ins G mo 377 (modM (.ref r)))
    (hL : LP G (.ref L) (if tr = true then l else m) (fun i row => LP G row (if tr = true then m else l) (fun j x => PolyAt G r n x (e (if tr = true then j else i) (if tr = true then i else j))))) (hm : 1 ≤ m ∧ m ≤ 1000) (hl : 1 ≤ l ∧ l ≤ 1000)
    (p : ∀ v G' h', Ext TW G h G' h' → TG G' h' → Mat G' mo r n tr v m l e → P v G' h') : C TW prog w A (.call (.ref mo) args) G h P := by
  refine CB_inst (K := 377) (f := 367) top (fun i => Im.keeps i) (by kernel_rfl) (c367 (d := d) (tr := tr) (D := .ref L) (mo := mo) (r := r) (cf := fun i j => e (if tr = true then j else i) (if tr = true then i else j)) ?_ hA top tb Im hL (by split <;> omega) (by split <;> omega) (by split <;> omega) fun v G' h' e' tb' I' => ?_)
  · rcases hargs with rfl | rfl | ⟨rfl, rfl⟩
    · exact .inl rfl
    · exact .inr (.inl rfl)
    · exact .inr (.inr ⟨rfl, rfl⟩)
  · exact p _ _ _ e' tb' ⟨v, L, rfl, I', hL.keeps e'.sub fun _ _ _ h => h.keeps e'.sub fun _ _ _ h => h.keeps e'.sub⟩
theorem LP.ref {H : Heap} {v : Value} {n : Nat} {P : Nat → Value → Prop} (x : LP H v n P) : ∃ a, v = .ref a := let ⟨a, _, e, _⟩ := x; ⟨a, e⟩
theorem T_listIL {v : Value} {k : Nat} {c : Nat → Int} (x : IL G v k c) (hk : k ≤ 1000) (p : ∀ L G' h', Ext W G h G' h' → IL G' (.ref L) k c → P (.ref L) G' h') : T W prog w A (call (.type "list") [v] []) G h P := by
  obtain ⟨a, vs, rfl, hl, hn, hp⟩ := x
  exact T_listOf hl (by k_caughtB) fun L G' h' hl' e => p L G' h' e ⟨L, vs, rfl, hl', hn, hp⟩
set_option maxHeartbeats 2000000 in
theorem c398 (hA : Rm A (d + 12)) (top : TopG w G) (tb : TG G h) (Im : Ins G mo 377 (modM (.ref r))) (rg : RingAt G r q n) (hn : n ≤ 100) (hg : GridAt G gv R C' n g) (hR : 1 ≤ R ∧ R ≤ 100) (hC : 1 ≤ C' ∧ C' ≤ 100)
    (p : ∀ v G' h', Ext TW G h G' h' → TG G' h' → Mat G' mo r n false v R C' g → P v G' h') : C TW prog w A (.call (.ref 398) ⟨[.ref mo, .ref r, gv, .bool false], []⟩) G h P := by
  obtain ⟨ga, rfl⟩ := hg.ref
  refine fnC [("module", .ref mo), ("ring", .ref r), ("grid", .ref ga), ("turned", .bool false)] [("module", .ref mo), ("turned", .bool false)] [("ring", .ref r), ("grid", .ref ga)] hA top (fun A1 env h1 hA1 hE F bs e1 => ?_) (by k_caught0) (by k_caught0)
  refine B_cons (B_If ?_)
  k_go
  refine T_truthyB ⟨fun h => (nomatch h), fun _ => ?_⟩
  refine B_nil ?_
  refine B_cons (B_Return_w ?_)
  k_upd; k_upd
  refine T.weak (T_Comp [("ring", .ref r)] hA1.hd F (compOk_of hE (by kernel_rfl)) (.inl (by k_mem)) (by k_caught0) ?_)
  k_go
  refine ⟨_, _, fun i row Gx => LP Gx row C' (fun j x => PolyAt Gx r n x (g i j)), Turns.loc hE (Iter.list hg) (by k_caughtB) (fun _ _ _ _ h k => h.keeps k fun _ _ _ h => h.keeps k) (by k_mem) ?_, ?_⟩
  · intro i line cenv L3 G3 h3 hi hline e3 hcE F3
    obtain ⟨la, rfl⟩ := hline.ref
    refine T_Comp [("ring", .ref r)] hA1.hd F3 (compOk_of hcE (by kernel_rfl)) (.inl (by k_mem)) (by k_caught0) ?_
    k_go
    refine ⟨_, _, fun j x Gx => PolyAt Gx r n x (g i j), Turns.loc hcE (Iter.list (hline.keeps e3.sub fun _ _ _ h => h.keeps e3.sub)) (by k_caughtB) (fun _ _ _ _ h k => h.keeps k) (by k_mem) ?_, ?_⟩
    · intro j row cenv2 L4 G4 h4 hj hrow e4 hcE2 F4
      obtain ⟨ra, rfl⟩ := hrow.ref
      k_go
      refine ⟨Kept.type, T_listIL (hrow.keeps e4.sub) (by k_caughtB) fun L5 G5 h5 e5 hL5 => ?_⟩
      have F5 := F4.ext e5
      have rg5 := ((rg.ext e3).ext e4).ext e5
      exact ⟨rg5.kept F5.into, T_C (cR (d := d) (hA1.mono (by k_caughtB)) F5.top rg5 hL5 (Nat.le_refl _) hn fun v G' h' e hv => hv.pad)⟩
    · intro La Ga ha ea hla
      exact hla
  · intro La Ga ha ea hla
    have Fa := F.ext ea
    refine ⟨((Im.keeps ea.sub).keeps Fa.into).kept, T_C (cM (d := d) (tr := false) (m := R) (l := C') (e := g) (.inr (.inr ⟨rfl, rfl⟩)) (hA1.mono (by k_caughtB)) Fa.top ((tb.ext e1).ext ea) (Im.keeps ea.sub) hla (by k_caughtB) (by k_caughtB) fun v G' h' e' tb' M' => ?_)⟩
    exact p _ _ _ (e1.wk.trans (ea.wk.trans e')) tb' M'
end
end
section
theorem fillD27 : PySem.Challenge.rw_yi0068_01 = PySem.Challenge.rw_yi0068_01 ∧ hd.heap_39 = hd.heap_39 := by
  k_fill
  exact ⟨rfl, rfl⟩
/-- m lists of l polynomials -/
def PartsAt (G : Heap) (r : Addr) (n : Nat) (v : Value) (m l : Nat) (e : Nat → Nat → Nat → Int) : Prop := LP G v m (fun i row => LP G row l (fun j x => PolyAt G r n x (e i j)))
theorem PartsAt.keeps {G G' : Heap} {r n : Nat} {v : Value} {m l : Nat} {e : Nat → Nat → Nat → Int} (x : PartsAt G r n v m l e) (k : ∀ b o, G.get? b = some o → G'.get? b = some o) : PartsAt G' r n v m l e := LP.keeps x k fun _ _ _ h => h.keeps k fun _ _ _ h => h.keeps k
section
variable {W : List Addr} {prog : Program} {w : World} {A : Around} {G h : Heap} {env : Env} {P : Value → Heap → Heap → Prop} {q : Int} {n : Nat} {r mo : Addr} {d : Nat} {D u v pv : Value} {m l : Nat} {tr : Bool} {e : Nat → Nat → Nat → Int}
set_option maxHeartbeats 2000000 in
theorem c425 (hA : Rm A (d + 12)) (top : TopG w G) (tb : TG G h) (Im : Ins G mo 377 (modM (.ref r))) (rg : RingAt G r q n) (hn : n ≤ 100) (hp : PartsAt G r n pv m l e) (hm : 1 ≤ m ∧ m ≤ 100) (hl : 1 ≤ l ∧ l ≤ 100)
    (p : ∀ v G' h', Ext TW G h G' h' → TG G' h' → Mat G' mo r n tr v m l e → P v G' h') : C TW prog w A (.call (.ref 425) ⟨[.ref mo, pv, .bool tr], []⟩) G h P := by
  obtain ⟨pa, rfl⟩ := hp.ref
  refine fnC [("module", .ref mo), ("parts", .ref pa), ("turned", .bool tr)] [("module", .ref mo), ("turned", .bool tr)] [("parts", .ref pa)] hA top (fun A1 env h1 hA1 hE F bs e1 => ?_) (by k_caught0) (by k_caught0)
  refine B_cons (B_If ?_)
  k_go
  refine T_truthyB ⟨fun ht => ?_, fun ht => ?_⟩
  · subst ht
    refine B_cons ?_
    refine B_CompS [("parts", .ref pa)] hA1.hd F (compOk_of hE (by kernel_rfl)) (.inr (by k_mem)) (by k_caught0) (bs _).l (by k_all) (by kernel_rfl) (by rw [hE]; rfl) ?_
    k_go
    refine T_item hp (i := 0) (by simp) (by k_caughtB) (by k_caughtB) fun row hrow => ?_
    refine ⟨Kept.builtin, T_len hrow (by k_caughtB) fun t2 => ?_⟩
    refine ⟨Kept.type, T_range1 fun rv G2 h2 hr2 e2 => ?_⟩
    refine ⟨_, _, fun j row Gx => LP Gx row m (fun i x => PolyAt Gx r n x (e i j)), Turns.cel hE (Iter.upto hr2 (by k_caughtB)) (by k_caughtB) (fun _ _ _ _ h k => h.keeps k fun _ _ _ h => h.keeps k) (by k_mem) ?_, ?_⟩
    · intro j vj cenv L3 G3 h3 hj hvj e3 hcE F3
      obtain ⟨tj, rfl⟩ := hvj
      refine T_Comp [("parts", .ref pa), ("j", .int j tj)] hA1.hd F3 (compOk_of hcE (by kernel_rfl)) (.inl (by k_mem)) (by k_caught0) ?_
      k_go
      have hp3 := (hp.keeps e2.sub).keeps e3.sub
      refine ⟨Kept.builtin, T_len hp3 (by k_caughtB) fun t3 => ?_⟩
      refine ⟨Kept.type, T_range1 fun rv4 G4 h4 hr4 e4 => ?_⟩
      refine ⟨_, _, fun i x Gx => PolyAt Gx r n x (e i j), Turns.loc hcE (Iter.upto hr4 (by k_caughtB)) (by k_caughtB) (fun _ _ _ _ h k => h.keeps k) (by k_mem) ?_, ?_⟩
      · intro i vi cenv2 L5 G5 h5 hi hvi e5 hcE2 F5
        obtain ⟨ti, rfl⟩ := hvi
        have hp5 := (hp3.keeps e4.sub).keeps e5.sub
        k_go
        refine T_item hp5 (i := i) rfl hi (by k_caughtB) fun row hrow => ?_
        k_go
        exact T_item hrow (i := j) rfl hj (by k_caughtB) fun x hx => hx
      · intro La Ga ha ea hla
        exact hla
    · intro La Ga ha ea hla Fa
      have t1 := (tb.ext e1)
      have off : OffW TW env := tb.tb.off (bs [])
      have tba : Tb ha := t1.tb.keep fun P hP o q => ea.keep P o (by
        intro m; have := List.mem_singleton.mp m; subst this; exact off.loc hP) q
      refine B_intro fun xa => B_cons (B_Return_w ?_)
      refine T_CallN ?_
      k_go
      refine ⟨((Im.keeps ea.sub).keeps Fa.into).kept, T_C (cM (d := d) (tr := true) (m := m) (l := l) (e := e) (.inl rfl) (hA1.mono (by k_caughtB)) Fa.top (t1.extW ea tba) (Im.keeps ea.sub) hla (by k_caughtB) (by k_caughtB) fun v G' h' e' tb' M' => ?_)⟩
      exact p _ _ _ (xa.trans e') tb' M'
  · subst ht
    refine B_nil ?_
    refine B_cons (B_Return_w ?_)
    k_go
    refine ⟨(Im.keeps F.into).kept, T_C (cM (d := d) (tr := false) (m := m) (l := l) (e := e) (.inr (.inr ⟨rfl, rfl⟩)) (hA1.mono (by k_caughtB)) F.top (tb.ext e1) Im hp (by k_caughtB) (by k_caughtB) fun v G' h' e' tb' M' => ?_)⟩
    exact p _ _ _ (e1.wk.trans e') tb' M'
end
end
section
theorem fillD28 : PySem.Challenge.rw_yi0068_01 = PySem.Challenge.rw_yi0068_01 ∧ hd.heap_39 = hd.heap_39 := by
  k_fill
  exact ⟨rfl, rfl⟩
section
variable {W : List Addr} {prog : Program} {w : World} {A : Around} {G h : Heap} {env : Env} {P : Value → Heap → Heap → Prop} {q : Int} {n : Nat} {r mo : Addr} {d : Nat} {D u v av bv : Value} {m l : Nat} {tr : Bool} {a b : Nat → Int}
/-- a row of a unit matrix -/
def unitC (j at_ k : Nat) : Int := if j = at_ ∧ k = 0 then 1 else 0
set_option maxHeartbeats 2000000 in
theorem c430 {many at_ : Nat} {t1 t2 : Tok} (hA : Rm A (d + 12)) (top : TopG w G) (rg : RingAt G r q n) (hn0 : 1 ≤ n) (hn : n ≤ 100) (hm : many ≤ 100)
    (p : ∀ L G' h', Ext [] G h G' h' → LP G' (.ref L) many (fun j x => PolyAt G' r n x (fun k => unitC j at_ k)) → P (.ref L) G' h') : C [] prog w A (.call (.ref 430) ⟨[.ref r, .int many t1, .int at_ t2], []⟩) G h P := by
  refine fnC [("ring", .ref r), ("many", .int many t1), ("at", .int at_ t2)] [("many", .int many t1)] [("ring", .ref r), ("at", .int at_ t2)] hA top (fun A1 env h1 hA1 hE F bs e1 => ?_) (by k_caught0) (by k_caught0)
  refine B_cons (B_Return ?_)
  refine T_Comp [("ring", .ref r), ("at", .int at_ t2)] hA1.hd F (compOk_of hE (by kernel_rfl)) (.inl (by k_mem)) (by k_caught0) ?_
  k_go
  refine ⟨Kept.type, T_range1 fun rv G2 h2 hr2 e2 => ?_⟩
  refine ⟨_, _, fun j x Gx => PolyAt Gx r n x (fun k => unitC j at_ k), Turns.loc hE (Iter.upto hr2 (by k_caughtB)) (by k_caughtB) (fun _ _ _ _ h k => h.keeps k) (by k_mem) ?_, ?_⟩
  · intro j vj cenv L3 G3 h3 hj hvj e3 hcE F3
    obtain ⟨tj, rfl⟩ := hvj
    have rg3 := (rg.ext e2).ext e3
    k_go
    refine T_eqI (T_truthyB ?_)
    by_cases z : (j : Int) = at_
    · rw [if_pos (by simpa using z)]
      k_go
      refine ⟨rg3.kept F3.into, T_C (cRi (d := d) (hA1.mono (by k_caughtB)) F3.top rg3 hn0 hn fun v G' h' e hv => ?_)⟩
      obtain ⟨x, L', rfl, I, hl⟩ := hv
      refine ⟨x, L', rfl, I, IL.congr hl fun i _ => ?_⟩
      unfold pad unitC
      have : j = at_ := by omega
      by_cases hi : i = 0
      · simp [this, hi]
      · have : ¬ i < 1 := by omega
        simp [this, hi]
    · rw [if_neg (by simpa using z)]
      k_go
      obtain ⟨tq, tn, Ir⟩ := id rg3
      refine T_methodOwn F3.top (fun i => Ir.keeps i) (by kernel_rfl) (by unfold KK; k_is) ?_
      k_go
      refine ⟨Kept.ofK (F3.top.k.keeps F3.into) (by kernel_rfl), T_C (c42 (d := d) (hA1.mono (by k_caughtB)) F3.top rg3 hn0 hn fun v G' h' e hv => ?_)⟩
      obtain ⟨x, L', rfl, I, hl⟩ := hv
      refine ⟨x, L', rfl, I, IL.congr hl fun i _ => ?_⟩
      unfold unitC
      rw [if_neg]; omega
  · intro La Ga ha ea hla
    exact p _ _ _ (e1.trans ea) hla
set_option maxHeartbeats 2000000 in
theorem c408 {s : Int} {t : Tok} (hA : Rm A (d + 3)) (top : TopG w G) (ha : IL G av n a) (hb : IL G bv n b) (hs : s = 1 ∨ s = -1) (hn : n ≤ 100)
    (p : ∀ L G' h', Ext [] G h G' h' → IL G' (.ref L) n (fun k => a k + s * b k) → P (.ref L) G' h') : C [] prog w A (.call (.ref 408) ⟨[av, bv, .int s t], []⟩) G h P := by
  obtain ⟨aa, rfl⟩ := ha.ref
  obtain ⟨ba, rfl⟩ := hb.ref
  refine fnC [("a", .ref aa), ("b", .ref ba), ("sign", .int s t)] [] [("a", .ref aa), ("b", .ref ba), ("sign", .int s t)] hA top (fun A1 env h1 hA1 hE F bs e1 => ?_) (by k_caught0) (by k_caught0)
  refine B_cons (B_Return ?_)
  refine T_Comp [("a", .ref aa), ("b", .ref ba), ("sign", .int s t)] hA1.hd F (compOk_of hE (by kernel_rfl)) (.inl (by k_mem)) (by k_caught0) ?_
  k_go
  refine ⟨Kept.builtin, T_len ha (by k_caughtB) fun t2 => ?_⟩
  refine ⟨Kept.type, T_range1 fun rv G2 h2 hr2 e2 => ?_⟩
  refine ⟨_, _, fun j x _ => intIs (fun k => a k + s * b k) j x, Turns.loc hE (Iter.upto hr2 (by k_caughtB)) (by k_caughtB) (fun _ _ _ _ h k => h) (by k_mem) ?_, ?_⟩
  · intro j vj cenv L3 G3 h3 hj hvj e3 hcE F3
    obtain ⟨tj, rfl⟩ := hvj
    have ha3 := (ha.keeps e2.sub).keeps e3.sub
    have hb3 := (hb.keeps e2.sub).keeps e3.sub
    k_go
    refine T_item ha3 (i := j) rfl hj (by k_caughtB) fun x hx => ?_
    obtain ⟨tx, rfl⟩ := hx
    k_go
    refine T_item hb3 (i := j) rfl hj (by k_caughtB) fun y hy => ?_
    obtain ⟨ty, rfl⟩ := hy
    refine T_mul (IntMulOk.of_left (intBits_le_64 (by k_caughtB) (by k_caughtB))) fun _ => ?_
    exact T_add fun tk => ⟨tk, rfl⟩
  · intro La Ga ha ea hla
    exact p _ _ _ (e1.trans ea) hla
end
end
section
theorem fillD29 : PySem.Challenge.rw_yi0068_01 = PySem.Challenge.rw_yi0068_01 ∧ hd.heap_39 = hd.heap_39 := by
  k_fill
  exact ⟨rfl, rfl⟩
section
variable {W : List Addr} {prog : Program} {w : World} {A : Around} {G h : Heap} {env : Env} {P : Value → Heap → Heap → Prop} {q : Int} {n : Nat} {r mo : Addr} {d : Nat} {D u v av bv : Value} {m l : Nat} {tr : Bool} {a b c : Nat → Int}
theorem slice_last (vs : List Value) (h : 1 ≤ vs.length) : slicePick vs.toArray none (some (-1)) none = (vs.take (vs.length - 1)).toArray := by
  have e : sliceBounds none (some (-1)) none vs.toArray.size = sliceBounds none (some ((vs.length - 1 : Nat) : Int)) none vs.toArray.size := by
    unfold sliceBounds
    simp
    omega
  have := slicePick_upto vs.toArray (vs.length - 1) (by simp)
  unfold slicePick at this ⊢
  rw [e]; exact this
/-- v[:-1] -/
theorem T_sliceLast {value : Expr} {e : Expr} {p pos : Pos} (x : T W prog w A (eval value env) G h (fun v G1 h1 => T W prog w A (eval e env) G1 h1 (fun u G2 h2 => ∃ t vs a, u = .int (-1) t ∧ v = .ref a ∧ LAt G2 a vs ∧ 1 ≤ vs.length ∧ vs.length ≤ 1000 ∧
      ∀ b G' h', Ext W G2 h2 G' h' → LAt G' b (vs.take (vs.length - 1)) → P (.ref b) G' h')))
    (ht : ∀ o r, letTemporaryGo value o r = pure () := by intro _ _; rfl) :
    T W prog w A (eval (.Subscript value (.Slice none (some e) none p) pos) env) G h P := fun s hs hi => by
  refine wpAny_Subscript_list_slice (x.run hs hi fun v s1 G1 e1 g1 y => ?_) ht
  refine wpAny_pure ?_
  show wpAny _ A (eval e env) _ _ s1
  refine y.run rfl e1.into fun u s2 G2 e2 g2 z => ?_
  obtain ⟨t, vs, a, rfl, rfl, hl, h1, h2, p⟩ := z
  refine ⟨a, vs.toArray, none, some (-1), rfl, (hl.keeps e2.into).isList, by rw [List.size_toArray, sizeLine_eq]; omega, .none, .int _ _, ?_⟩
  rw [slice_last vs h1]
  have ex1 : Ext W G2 s2.heap G2 (s2.heap.push { cls := .type "slice", data := .fields #[.none, .int (-1) t, .none] }) := Ext.grow e2.into fun b o => Heap.get?_push_of_some _
  have ex2 := Ext.push (W := W) (h := s2.heap.push { cls := .type "slice", data := .fields #[.none, .int (-1) t, .none] }) ex1.into (o := { cls := .type "list", data := .seq (vs.take (vs.length - 1)).toArray }) rfl
  have sz : (s2.heap.push { cls := .type "slice", data := .fields #[.none, .int (-1) t, .none] }).objs.size = s2.heap.objs.size + 1 := Heap.size_push ..
  have ex := ex1.trans ex2
  refine ⟨_, e1.trans (e2.trans ex), g1.trans (g2.trans (GO.same rfl rfl)), ?_⟩
  rw [← sz]
  exact p _ _ _ ex ⟨0, addAt_self rfl⟩
def movd (n : Nat) (b : Nat → Int) : Nat → Nat → Int
  | 0, x => b x
  | i + 1, x => if x = 0 then 0 - movd n b i (n - 1) else movd n b i (x - 1)
def totl (n : Nat) (a b : Nat → Int) : Nat → Nat → Int
  | 0, _ => 0
  | i + 1, x => totl n a b i x + a i * movd n b i x
/-- the product as the law reckons it -/
def tims (n : Nat) (a b : Nat → Int) (x : Nat) : Int := totl n a b n x
set_option maxHeartbeats 2000000 in
theorem c403 (hA : Rm A (d + 4)) (top : TopG w G) (ha : IL G av n a) (hb : IL G bv n b) (hn0 : 1 ≤ n) (hn : n ≤ 100) (sa : ∀ i, i < n → Sm (a i)) (sb : ∀ i, i < n → Sm (b i))
    (p : ∀ L G' h', Ext [] G h G' h' → IL G' (.ref L) n (tims n a b) → P (.ref L) G' h') : C [] prog w A (.call (.ref 403) ⟨[av, bv], []⟩) G h P := by
  obtain ⟨aa, rfl⟩ := ha.ref
  obtain ⟨ba, rfl⟩ := hb.ref
  refine fnL [("a", .ref aa), ("b", .ref ba)] hA top fun A1 env h1 hA1 hE F bs e1 => ?_
  have isC : ∀ x, ((envOfC _ _ h.objs.size 403 (.ref 402)).cells.lookup x).isSome = true → ∃ c, env.cells.lookup x = some c := fun x q => Option.isSome_iff_exists.mp (hE ▸ q)
  obtain ⟨cv, hcv⟩ := isC "value" (by kernel_rfl)
  obtain ⟨ct, hct⟩ := isC "total" (by kernel_rfl)
  obtain ⟨cm, hcm⟩ := isC "moved" (by kernel_rfl)
  refine B_cons ?_
  refine B_Assign (by rw [hE]; rfl) ?_
  refine T_Comp [] hA1.hd F (compOk_of hE (by kernel_rfl)) (.inl (by k_mem)) (by k_caught0) ?_
  k_go
  refine ⟨_, _, fun j x _ => intIs (fun _ => 0) j x, Turns.loc hE (Iter.list hb) (by k_caughtB) (fun _ _ _ _ h k => h) (by k_mem) ?_, ?_⟩
  · intro j vj cenv L3 G3 h3 hj hvj e3 hcE F3
    k_upd
    exact ⟨_, rfl⟩
  intro tl G2 h2 e2 htl
  have F2 := F.ext e2
  refine B_storeC F2 ((bs _).c _) (by k_all) (by rw [hE]; kernel_rfl) (by kernel_rfl) fun c3 h3 hc3 sb3 F3 => ?_
  refine B_cons ?_
  refine B_Assign (by rfl) ?_
  k_go
  refine ⟨Kept.type, T_listIL (hb.keeps e2.sub) (by k_caughtB) fun ml G4 h4 e4 hml => ?_⟩
  have F4 := F3.ext e4
  refine B_storeC F4 ((bs _).c _) (by k_all) (by rw [hE]; kernel_rfl) (by kernel_rfl) fun c5 h5 hc5 sb5 F5 => ?_
  have ha5 := (ha.keeps e2.sub).keeps e4.sub
  have hb5 := (hb.keeps e2.sub).keeps e4.sub
  have smv : ∀ i x, x < n → Sm (movd n b i x) := fun i => by
    induction i with
    | zero => exact fun x hx => sb x hx
    | succ i ih =>
      intro x hx
      unfold movd
      split
      · unfold Sm; rw [Int.zero_sub]; exact intBits_neg_le (ih (n - 1) (by k_caughtB))
      · exact ih (x - 1) (by k_caughtB)
  refine B_cons ?_
  refine B_ForK [ct, cm, cv] hA1.hd ?_
  k_go
  refine ⟨_, _, fun i Gy hy => ∃ tl ml, Fm w env Gy hy [("a", .ref aa), ("b", .ref ba)] [("moved", .ref ml), ("total", .ref tl)] ∧ IL Gy (.ref tl) n (totl n a b i) ∧ IL Gy (.ref ml) n (movd n b i), Iter.list ha5, ⟨tl, ml, F5, htl.keeps e4.sub, hml⟩, ?_, ?_, ?_, ?_⟩
  · intro x hx
    simp only [List.mem_cons, List.not_mem_nil, or_false] at hx
    rcases hx with rfl | rfl | rfl
    · exact ⟨F5.live (.inr ⟨_, hct⟩), (bs _).c _ _ hct⟩
    · exact ⟨F5.live (.inr ⟨_, hcm⟩), (bs _).c _ _ hcm⟩
    · exact ⟨F5.live (.inr ⟨_, hcv⟩), (bs _).c _ _ hcv⟩
  · rintro i Gy hy hz ⟨tl, ml, Fy, y1, y2⟩ k hin
    exact ⟨tl, ml, Fy.other (fun b o hb q => k b o (F5.live hb) q) hin, y1, y2⟩
  · rintro i Gy hy v hi ⟨tv, rfl⟩ ⟨tl, ml, Fy, y1, y2⟩ sub QK hQ
    refine B_storeC Fy (fun c hc => by rw [hcv] at hc; cases hc; exact .inl (by simp)) (by k_all) (by rw [hE]; kernel_rfl) (by kernel_rfl) fun c6 h6 hc6 sb6 F6 => ?_
    refine B_cons ?_
    refine B_Assign (by rw [hE]; rfl) ?_
    refine T_Comp [("value", .int (a i) tv), ("moved", .ref ml), ("total", .ref tl)] hA1.hd F6 (compOk_of hE (by kernel_rfl)) (.inl (by k_mem)) (by k_caught0) ?_
    k_go
    refine ⟨Kept.builtin, T_len (hb5.keeps sub) (by k_caughtB) fun t2 => ?_⟩
    refine ⟨Kept.type, T_range1 fun rv G7 h7 hr7 e7 => ?_⟩
    refine ⟨_, _, fun j x _ => intIs (totl n a b (i + 1)) j x, Turns.loc hE (Iter.upto hr7 (by k_caughtB)) (by k_caughtB) (fun _ _ _ _ h k => h) (by k_mem) ?_, ?_⟩
    · intro j vj cenv L8 G8 h8 hj hvj e8 hcE F8
      obtain ⟨tj, rfl⟩ := hvj
      k_go
      refine T_item ((y1.keeps e7.sub).keeps e8.sub) (i := j) rfl hj (by k_caughtB) fun x hx => ?_
      obtain ⟨tx, rfl⟩ := hx
      k_go
      refine T_item ((y2.keeps e7.sub).keeps e8.sub) (i := j) rfl hj (by k_caughtB) fun y hy => ?_
      obtain ⟨ty, rfl⟩ := hy
      refine T_mul ((sa i hi).mul (smv i j hj)) fun _ => ?_
      exact T_add fun tk => ⟨tk, rfl⟩
    intro tl2 G9 h9 e9 htl2
    have F9 := (F6.ext e9).weak (l' := [("a", .ref aa), ("b", .ref ba)]) (lc' := [("value", .int (a i) tv), ("moved", .ref ml)]) (by k_caught0) (by k_caught0)
    refine B_storeC F9 (fun c hc => by rw [hct] at hc; cases hc; exact .inl (by simp)) (by k_all) (by rw [hE]; kernel_rfl) (by kernel_rfl) fun c10 h10 hc10 sb10 F10 => ?_
    refine B_cons ?_
    refine B_Assign (by rfl) ?_
    have y29 := y2.keeps e9.sub
    k_go
    refine T_sp1 ?_ (by rfl)
    k_go
    refine T_neg fun t11 => ?_
    refine T_itemLast y29 (by k_caughtB) fun x hx => ?_
    obtain ⟨tx, rfl⟩ := hx
    refine T_sub fun t12 => ?_
    refine T_newList (by simp) fun L11 G11 h11 hl11 e11 => ?_
    have F11 := F10.ext e11
    refine T_sliceLast ?_
    k_go
    refine T_neg fun t13 => ?_
    obtain ⟨_, vs, hv0, hvs, hvn, hvi⟩ := y29
    cases hv0
    refine ⟨_, vs, _, rfl, rfl, hvs.keeps e11.sub, by omega, by omega, fun L14 G14 h14 e14 hl14 => ?_⟩
    have F14 := F11.ext e14
    refine T_addLists (hl11.keeps e14.sub) hl14 (by simp; omega) fun L15 G15 h15 hl15 e15 => ?_
    have F15 := (F14.ext e15).weak (l' := [("a", .ref aa), ("b", .ref ba)]) (lc' := [("total", .ref tl2)]) (by k_caught0) (by k_caught0)
    refine B_storeC F15 (fun c hc => by rw [hcm] at hc; cases hc; exact .inl (by simp)) (by k_all) (by rw [hE]; kernel_rfl) (by kernel_rfl) fun c16 h16 hc16 sb16 F16 => ?_
    refine B_nil (hQ _ _ ⟨tl2, L15, F16, ((htl2.keeps e11.sub).keeps e14.sub).keeps e15.sub, L15, _, rfl, hl15, by simp; omega, fun j y hy => ?_⟩)
    rw [List.getElem?_append] at hy
    by_cases hj : j = 0
    · subst hj
      simp at hy
      subst hy
      exact ⟨t12, by simp [movd]⟩
    · have h1 : ¬ j < 1 := by omega
      rw [if_neg (by simpa using h1)] at hy
      simp only [List.length_cons, List.length_nil, Nat.zero_add] at hy
      rw [List.getElem?_take] at hy
      split at hy
      · obtain ⟨ty, rfl⟩ := hvi (j - 1) y hy
        exact ⟨ty, by simp [movd, hj]⟩
      · cases hy
  · rintro Gy hy ⟨tl, ml, Fy, y1, y2⟩ sub
    refine B_intro fun x => B_cons (B_Return ?_)
    k_go
    exact p _ _ _ x y1
end
end
section
theorem fillD30 : PySem.Challenge.rw_yi0068_01 = PySem.Challenge.rw_yi0068_01 ∧ hd.heap_39 = hd.heap_39 := by
  k_fill
  exact ⟨rfl, rfl⟩
section
variable {W : List Addr} {prog : Program} {w : World} {A : Around} {G h : Heap} {env : Env} {P : Value → Heap → Heap → Prop} {q : Int} {n : Nat} {r mo : Addr} {d : Nat} {D u v tv rv : Value} {m mm l j : Nat} {g : Nat → Nat → Nat → Int} {mg : Nat → Nat → Int}
def lsum (n : Nat) (g : Nat → Nat → Nat → Int) (mg : Nat → Nat → Int) (j : Nat) : Nat → Nat → Int
  | 0, _ => 0
  | i + 1, x => lsum n g mg j i x + 1 * tims n (g i j) (mg i) x
set_option maxHeartbeats 2000000 in
theorem c435 {t : Tok} (hA : Rm A (d + 6)) (top : TopG w G) (hr : LP G rv mm (fun i x => IL G x n (mg i))) (ht : GridAt G tv m l n g) (hm : 1 ≤ m) (hmm : m ≤ mm) (hz : mm ≤ 100) (hl : l ≤ 100) (hj : j < l) (hn0 : 1 ≤ n) (hn : n ≤ 100)
    (sa : ∀ i k, i < m → k < n → Sm (g i j k)) (sb : ∀ i k, i < m → k < n → Sm (mg i k))
    (p : ∀ L G' h', Ext [] G h G' h' → IL G' (.ref L) n (lsum n g mg j m) → P (.ref L) G' h') : C [] prog w A (.call (.ref 435) ⟨[rv, tv, .int j t], []⟩) G h P := by
  obtain ⟨ra, rfl⟩ := hr.ref
  obtain ⟨ta, rfl⟩ := ht.ref
  refine fnL [("row", .ref ra), ("table", .ref ta), ("j", .int j t)] hA top fun A1 env h1 hA1 hE F bs e1 => ?_
  refine B_cons ?_
  refine B_CompS [] hA1.hd F (compOk_of hE (by kernel_rfl)) (.inl (by k_mem)) (by k_caught0) (bs _).l (by k_all) (by kernel_rfl) (by rw [hE]; rfl) ?_
  k_go
  refine T_item ht (i := 0) (by simp) (by k_caughtB) (by k_caughtB) fun row hrow => ?_
  k_go
  refine T_item hrow (i := j) rfl hj (by k_caughtB) fun x hx => ?_
  refine ⟨_, _, fun j x _ => intIs (fun _ => 0) j x, Turns.loc hE (Iter.list hx) (by k_caughtB) (fun _ _ _ _ h k => h) (by k_mem) ?_, ?_⟩
  · intro j vj cenv L3 G3 h3 hj hvj e3 hcE F3
    k_upd
    exact ⟨_, rfl⟩
  intro tl G2 h2 e2 htl F2
  refine B_cons ?_
  refine B_ForK [env.locals] hA1.hd ?_
  k_go
  have ht2 := ht.keeps e2.sub
  have hr2 := hr.keeps e2.sub (fun _ _ _ h => h.keeps e2.sub)
  refine ⟨Kept.builtin, T_len ht2 (by k_caughtB) fun t3 => ?_⟩
  refine ⟨Kept.type, T_range1 fun rg G4 h4 hrg e4 => ?_⟩
  have F4 := F2.ext e4
  have ht4 := ht2.keeps e4.sub
  have hr4 := hr2.keeps e4.sub (fun _ _ _ h => h.keeps e4.sub)
  refine ⟨_, _, fun i Gy hy => ∃ tl, (Fm w env Gy hy [("total", .ref tl), ("row", .ref ra), ("table", .ref ta), ("j", .int j t)] []) ∧ IL Gy (.ref tl) n (lsum n g mg j i), Iter.upto hrg (by k_caughtB), ⟨tl, F4, htl.keeps e4.sub⟩, ?_, ?_, ?_, ?_⟩
  · intro x hx
    obtain rfl := List.mem_singleton.mp hx
    exact ⟨F4.live (.inl rfl), (bs _).l⟩
  · rintro i Gy hy hz ⟨tl, Fy, y1⟩ k hin
    exact ⟨tl, Fy.other (fun b o hb q => k b o (F4.live hb) q) hin, y1⟩
  · rintro i Gy hy v hi ⟨ti, rfl⟩ ⟨tl, Fy, y1⟩ sub QK hQ
    refine B_storeL Fy (.inl (by simp)) (by k_all) (by kernel_rfl) fun h5 sb5 F5 => ?_
    refine B_cons ?_
    refine B_Assign (by rfl) ?_
    have ht5 := ht4.keeps sub
    have hr5 := hr4.keeps sub (fun _ _ _ h => h.keeps sub)
    k_go
    refine T_item ht5 (i := i) rfl hi (by k_caughtB) fun row hrow => ?_
    k_go
    refine T_item hrow (i := j) rfl hj (by k_caughtB) fun x hx => ?_
    k_go
    refine T_item hr5 (i := i) rfl (by k_caughtB) (by k_caughtB) fun y hy => ?_
    refine ⟨Kept.ofK (F5.top.k.keeps F5.into) (by kernel_rfl), T_C (c403 (d := d) (hA1.mono (by k_caughtB)) F5.top hx hy hn0 hn (fun k hk => sa i k hi hk) (fun k hk => sb i k hi hk) fun L6 G6 h6 e6 hL6 => ?_)⟩
    have F6 := F5.ext e6
    k_go
    refine ⟨Kept.ofK (F6.top.k.keeps F6.into) (by kernel_rfl), T_C (c408 (d := d) (hA1.mono (by k_caughtB)) F6.top (y1.keeps e6.sub) hL6 (.inl rfl) hn fun L7 G7 h7 e7 hL7 => ?_)⟩
    have F7 := ((F6.ext e7).weak (l' := [("row", .ref ra), ("table", .ref ta), ("j", .int j t)]) (lc' := []) (by k_caught0) (by k_caught0))
    refine B_storeL F7 (.inl (by simp)) (by k_all) (by kernel_rfl) fun h8 sb8 F8 => ?_
    exact B_nil (hQ _ _ ⟨L7, F8, hL7⟩)
  · rintro Gy hy ⟨tl, Fy, y1⟩ sub
    refine B_intro fun x => B_cons (B_Return ?_)
    k_go
    exact p _ _ _ x y1
end
end
section
theorem fillD31 : PySem.Challenge.rw_yi0068_01 = PySem.Challenge.rw_yi0068_01 ∧ hd.heap_39 = hd.heap_39 := by
  k_fill
  exact ⟨rfl, rfl⟩
theorem rng_congr {n : Nat} {a b : Nat → Int} (h : ∀ k, k < n → a k = b k) : rng n a = rng n b := by
  unfold rng
  exact List.map_congr_left fun k hk => h k (List.mem_range.mp hk)
section
variable {W : List Addr} {prog : Program} {w : World} {A : Around} {G h : Heap} {env : Env} {P : Value → Heap → Heap → Prop} {q : Int} {n : Nat} {r mo : Addr} {d : Nat} {mv gv : Value} {m l : Nat} {tr : Bool} {e g : Nat → Nat → Nat → Int}
set_option maxHeartbeats 4000000 in
theorem c413 {tq : Tok} (hA : Rm A (d + 8)) (top : TopG w G) (M : Mat G mo r n tr mv m l e) (hg : GridAt G gv m l n g) (hm : 1 ≤ m ∧ m ≤ 100) (hl : 1 ≤ l ∧ l ≤ 100) (hn : n ≤ 100) (hq : 0 < q) (hM : ∀ i j k, i < m → j < l → k < n → e i j k = g i j k % q)
    (p : ∀ G' h', Ext [] G h G' h' → P (.bool true) G' h') : C [] prog w A (.call (.ref 413) ⟨[mv, gv, .int q tq], []⟩) G h P := by
  obtain ⟨ga, rfl⟩ := hg.ref
  obtain ⟨ma, rfl⟩ := M.ref
  refine fnC [("made", .ref ma), ("grid", .ref ga), ("q", .int q tq)] [("made", .ref ma), ("grid", .ref ga)] [("q", .int q tq)] hA top (fun A1 env h1 hA1 hE F bs e1 => ?_) (by k_caught0) (by k_caught0)
  refine B_cons (B_If ?_)
  k_go
  refine T_dim (d := d) (hA1.mono (by k_caughtB)) top M (by k_caughtB) (by k_caughtB) F.into fun tp G2 h2 t u e2 hv => ?_
  have F2 := F.ext e2
  have hg2 := hg.keeps e2.sub
  k_go
  refine T_sp2 ?_ (by rfl)
  k_go
  refine ⟨Kept.builtin, T_len hg2 (by k_caughtB) fun t3 => ?_⟩
  k_go
  refine T_item hg2 (i := 0) (by simp) (by k_caughtB) (by k_caughtB) fun row hrow => ?_
  refine ⟨Kept.builtin, T_len hrow (by k_caughtB) fun t4 => ?_⟩
  refine T_newTuple (by simp) fun tp3 G3 h3 hv3 e3 => ?_
  have F3 := F2.ext e3
  refine T_neTup (hv.mono e3) ⟨0, hv3⟩ (.cons _ _ (.cons _ _ .nil)) (.cons _ _ (.cons _ _ .nil)) (by have := hA1.units; unfold cLine; omega) (T_truthyB ⟨fun h => by simp at h, fun _ => ?_⟩)
  refine B_nil ?_
  have hg3 := hg2.keeps e3.sub
  have M3 := (M.ext e2).ext e3
  refine B_cons ?_
  refine B_ForK [env.locals] hA1.hd ?_
  k_go
  refine ⟨Kept.builtin, T_len hg3 (by k_caughtB) fun t3 => ?_⟩
  refine ⟨Kept.type, T_range1 fun rv4 G4 h4 hr4 e4 => ?_⟩
  have F4 := F3.ext e4
  have hg4 := hg3.keeps e4.sub
  have M4 := M3.ext e4
  refine ⟨_, _, fun i Gy hy => Fm w env Gy hy [("made", .ref ma), ("grid", .ref ga)] [("q", .int q tq)], Iter.upto hr4 (by k_caughtB), F4, ?_, ?_, ?_, ?_⟩
  · intro x hx
    obtain rfl := List.mem_singleton.mp hx
    exact ⟨F4.live (.inl rfl), (bs _).l⟩
  · intro i Gy hy hz Fy k hin
    exact Fy.other (fun b o hb q => k b o (F4.live hb) q) hin
  · rintro i Gy hy v hi ⟨ti, rfl⟩ Fy sub QK hQ
    refine B_storeL Fy (.inl (by simp)) (by k_all) (by kernel_rfl) fun h5 sb5 F5 => ?_
    have hg5 := hg4.keeps sub
    have M5 := M4.keeps sub
    refine B_cons ?_
    refine B_ForK [env.locals] hA1.hd ?_
    k_go
    refine T_item hg5 (i := 0) (by simp) (by k_caughtB) (by k_caughtB) fun row hrow => ?_
    refine ⟨Kept.builtin, T_len hrow (by k_caughtB) fun t3 => ?_⟩
    refine ⟨Kept.type, T_range1 fun rv6 G6 h6 hr6 e6 => ?_⟩
    have F6 := F5.ext e6
    have hg6 := hg5.keeps e6.sub
    have M6 := M5.ext e6
    refine ⟨_, _, fun j Gy hy => Fm w env Gy hy [("i", .int i ti), ("made", .ref ma), ("grid", .ref ga)] [("q", .int q tq)], Iter.upto hr6 (by k_caughtB), F6, ?_, ?_, ?_, ?_⟩
    · intro x hx
      obtain rfl := List.mem_singleton.mp hx
      exact ⟨F6.live (.inl rfl), .inl (by simp)⟩
    · intro i Gy hy hz Fy k hin
      exact Fy.other (fun b o hb q => k b o (F6.live hb) q) hin
    rintro j Gz hz v hj ⟨tj, rfl⟩ Fz subz QK hQ
    refine B_storeL Fz (.inl (by simp)) (by k_all) (by kernel_rfl) fun h8 sb8 F8 => ?_
    have hg8 := hg6.keeps subz
    have M8 := M6.keeps subz
    refine B_cons (B_If ?_)
    k_go
    refine T_sp2 ?_ (by rfl)
    k_go
    refine T_newTuple (by simp) fun tp G10 h10 hv10 e10 => ?_
    have F10 := F8.ext e10
    refine T_matGet (d := d) (hA1.mono (by k_caughtB)) F10 (M8.ext e10) (by k_caughtB) (by k_caughtB) ⟨0, hv10⟩ hi hj fun x h11 e11 hx => ?_
    have F11 := F10.ext e11
    refine T_coeffs F11.top hx fun Lx hLx => ?_
    k_go
    refine T_Comp [("q", .int q tq)] hA1.hd F11 (compOk_of hE (by kernel_rfl)) (.inl (by k_mem)) (by k_caught0) ?_
    k_go
    have hg9 := hg8.keeps e10.sub
    refine T_item hg9 (i := i) rfl hi (by k_caughtB) fun row hrow => ?_
    k_go
    refine T_item hrow (i := j) rfl hj (by k_caughtB) fun y hy => ?_
    refine ⟨_, _, fun k x _ => intIs (fun k => g i j k % q) k x, Turns.loc hE (Iter.list hy) (by k_caughtB) (fun _ _ _ _ h k => h) (by k_mem) ?_, ?_⟩
    · intro k vk cenv L12 G12 h12 hk hvk e12 hcE F12
      obtain ⟨tk, rfl⟩ := hvk
      k_go
      exact T_mod hq fun tk => ⟨tk, rfl⟩
    intro L13 G13 h13 e13 hL13
    have F13 := F11.ext e13
    refine T_neInts (hLx.keeps e13.sub) hL13 (by have := hA1.units; unfold cLine; omega) (T_truthyB ⟨fun h => ?_, fun _ => ?_⟩)
    · rw [rng_congr fun k hk => hM i j k hi hj hk] at h; simp at h
    · exact B_nil (B_nil (hQ _ _ (F13.weak (by k_caught0) (by k_caught0))))
    · intro Gz hz Fz subz
      exact B_nil (hQ _ _ (Fz.weak (by k_caught0) (by k_caught0)))
  · intro Gy hy Fy sub
    refine B_intro fun x => B_cons (B_Return ?_)
    k_go
    exact p _ _ x
set_option maxHeartbeats 4000000 in
theorem c420 (hA : Rm A (d + 8)) (top : TopG w G) (M : Mat G mo r n tr mv m l e) (hg : GridAt G gv m l n g) (hm : 1 ≤ m ∧ m ≤ 100) (hl : 1 ≤ l ∧ l ≤ 100) (hn : n ≤ 100) (hM : ∀ i j k, i < m → j < l → k < n → e i j k = g i j k)
    (p : ∀ G' h', Ext [] G h G' h' → P (.bool true) G' h') : C [] prog w A (.call (.ref 420) ⟨[mv, gv], []⟩) G h P := by
  obtain ⟨ga, rfl⟩ := hg.ref
  obtain ⟨ma, rfl⟩ := M.ref
  refine fnL [("made", .ref ma), ("grid", .ref ga)] hA top fun A1 env h1 hA1 hE F bs e1 => ?_
  refine B_cons (B_If ?_)
  k_go
  refine T_dim (d := d) (hA1.mono (by k_caughtB)) top M (by k_caughtB) (by k_caughtB) F.into fun tp G2 h2 t u e2 hv => ?_
  have F2 := F.ext e2
  have hg2 := hg.keeps e2.sub
  k_go
  refine T_sp2 ?_ (by rfl)
  k_go
  refine ⟨Kept.builtin, T_len hg2 (by k_caughtB) fun t3 => ?_⟩
  k_go
  refine T_item hg2 (i := 0) (by simp) (by k_caughtB) (by k_caughtB) fun row hrow => ?_
  refine ⟨Kept.builtin, T_len hrow (by k_caughtB) fun t4 => ?_⟩
  refine T_newTuple (by simp) fun tp3 G3 h3 hv3 e3 => ?_
  have F3 := F2.ext e3
  refine T_neTup (hv.mono e3) ⟨0, hv3⟩ (.cons _ _ (.cons _ _ .nil)) (.cons _ _ (.cons _ _ .nil)) (by have := hA1.units; unfold cLine; omega) (T_truthyB ⟨fun h => by simp at h, fun _ => ?_⟩)
  refine B_nil ?_
  have hg3 := hg2.keeps e3.sub
  have M3 := (M.ext e2).ext e3
  refine B_cons ?_
  refine B_ForK [env.locals] hA1.hd ?_
  k_go
  refine ⟨Kept.builtin, T_len hg3 (by k_caughtB) fun t3 => ?_⟩
  refine ⟨Kept.type, T_range1 fun rv4 G4 h4 hr4 e4 => ?_⟩
  have F4 := F3.ext e4
  have hg4 := hg3.keeps e4.sub
  have M4 := M3.ext e4
  refine ⟨_, _, fun i Gy hy => Fm w env Gy hy [("made", .ref ma), ("grid", .ref ga)] [], Iter.upto hr4 (by k_caughtB), F4, ?_, ?_, ?_, ?_⟩
  · intro x hx
    obtain rfl := List.mem_singleton.mp hx
    exact ⟨F4.live (.inl rfl), (bs _).l⟩
  · intro i Gy hy hz Fy k hin
    exact Fy.other (fun b o hb q => k b o (F4.live hb) q) hin
  · rintro i Gy hy v hi ⟨ti, rfl⟩ Fy sub QK hQ
    refine B_storeL Fy (.inl (by simp)) (by k_all) (by kernel_rfl) fun h5 sb5 F5 => ?_
    have hg5 := hg4.keeps sub
    have M5 := M4.keeps sub
    refine B_cons ?_
    refine B_ForK [env.locals] hA1.hd ?_
    k_go
    refine T_item hg5 (i := 0) (by simp) (by k_caughtB) (by k_caughtB) fun row hrow => ?_
    refine ⟨Kept.builtin, T_len hrow (by k_caughtB) fun t3 => ?_⟩
    refine ⟨Kept.type, T_range1 fun rv6 G6 h6 hr6 e6 => ?_⟩
    have F6 := F5.ext e6
    have hg6 := hg5.keeps e6.sub
    have M6 := M5.ext e6
    refine ⟨_, _, fun j Gy hy => Fm w env Gy hy [("i", .int i ti), ("made", .ref ma), ("grid", .ref ga)] [], Iter.upto hr6 (by k_caughtB), F6, ?_, ?_, ?_, ?_⟩
    · intro x hx
      obtain rfl := List.mem_singleton.mp hx
      exact ⟨F6.live (.inl rfl), .inl (by simp)⟩
    · intro i Gy hy hz Fy k hin
      exact Fy.other (fun b o hb q => k b o (F6.live hb) q) hin
    rintro j Gz hz v hj ⟨tj, rfl⟩ Fz subz QK hQ
    refine B_storeL Fz (.inl (by simp)) (by k_all) (by kernel_rfl) fun h8 sb8 F8 => ?_
    have hg8 := hg6.keeps subz
    have M8 := M6.keeps subz
    refine B_cons (B_If ?_)
    k_go
    refine T_sp2 ?_ (by rfl)
    k_go
    refine T_newTuple (by simp) fun tp G10 h10 hv10 e10 => ?_
    have F10 := F8.ext e10
    refine T_matGet (d := d) (hA1.mono (by k_caughtB)) F10 (M8.ext e10) (by k_caughtB) (by k_caughtB) ⟨0, hv10⟩ hi hj fun x h11 e11 hx => ?_
    have F11 := F10.ext e11
    refine T_coeffs F11.top hx fun Lx hLx => ?_
    k_go
    have hg9 := hg8.keeps e10.sub
    refine T_item hg9 (i := i) rfl hi (by k_caughtB) fun row hrow => ?_
    k_go
    refine T_item hrow (i := j) rfl hj (by k_caughtB) fun y hy => ?_
    refine T_neInts hLx hy (by have := hA1.units; unfold cLine; omega) (T_truthyB ⟨fun h => ?_, fun _ => ?_⟩)
    · rw [rng_congr fun k hk => hM i j k hi hj hk] at h; simp at h
    · exact B_nil (B_nil (hQ _ _ (F11.weak (by k_caught0) (by k_caught0))))
    · intro Gz hz Fz subz
      exact B_nil (hQ _ _ (Fz.weak (by k_caught0) (by k_caught0)))
  · intro Gy hy Fy sub
    refine B_intro fun x => B_cons (B_Return ?_)
    k_go
    exact p _ _ x
end
end
section
/-! ## the plain law -/
theorem conv1_0 (a b : Nat → Int) : conv 1 a b 0 = a 0 * b 0 := by simp [conv, outer1, outer2, inner1, inner2, updF]
theorem conv2_0 (a b : Nat → Int) : conv 2 a b 0 = a 0 * b 0 - a 1 * b 1 := by simp [conv, outer1, outer2, inner1, inner2, updF]
theorem conv2_1 (a b : Nat → Int) : conv 2 a b 1 = a 0 * b 1 + a 1 * b 0 := by simp [conv, outer1, outer2, inner1, inner2, updF]
theorem conv3_0 (a b : Nat → Int) : conv 3 a b 0 = a 0 * b 0 - a 2 * b 1 - a 1 * b 2 := by simp [conv, outer1, outer2, inner1, inner2, updF]
theorem conv3_1 (a b : Nat → Int) : conv 3 a b 1 = a 0 * b 1 + a 1 * b 0 - a 2 * b 2 := by simp [conv, outer1, outer2, inner1, inner2, updF]
theorem conv3_2 (a b : Nat → Int) : conv 3 a b 2 = a 0 * b 2 + a 1 * b 1 + a 2 * b 0 := by simp [conv, outer1, outer2, inner1, inner2, updF]
theorem tims1_0 (a b : Nat → Int) : tims 1 a b 0 = a 0 * b 0 := by simp [tims, totl, movd]
theorem tims2_0 (a b : Nat → Int) : tims 2 a b 0 = a 0 * b 0 + a 1 * - b 1 := by simp [tims, totl, movd]
theorem tims2_1 (a b : Nat → Int) : tims 2 a b 1 = a 0 * b 1 + a 1 * b 0 := by simp [tims, totl, movd]
theorem tims3_0 (a b : Nat → Int) : tims 3 a b 0 = a 0 * b 0 + a 1 * - b 2 + a 2 * - b 1 := by simp [tims, totl, movd]
theorem tims3_1 (a b : Nat → Int) : tims 3 a b 1 = a 0 * b 1 + a 1 * b 0 + a 2 * - b 2 := by simp [tims, totl, movd]
theorem tims3_2 (a b : Nat → Int) : tims 3 a b 2 = a 0 * b 2 + a 1 * b 1 + a 2 * b 0 := by simp [tims, totl, movd]
/-- the six places -/
theorem six {n x : Nat} {Q : Nat → Nat → Prop} (hn : n = 1 ∨ n = 2 ∨ n = 3) (hx : x < n) (h10 : Q 1 0) (h20 : Q 2 0) (h21 : Q 2 1) (h30 : Q 3 0) (h31 : Q 3 1) (h32 : Q 3 2) : Q n x := by
  rcases hn with rfl | rfl | rfl
  · obtain rfl : x = 0 := by omega
    exact h10
  · have : x = 0 ∨ x = 1 := by omega
    rcases this with rfl | rfl <;> assumption
  · have : x = 0 ∨ x = 1 ∨ x = 2 := by omega
    rcases this with rfl | rfl | rfl <;> assumption
section
variable {n x : Nat} {q : Int} {a a' b b' : Nat → Int}
theorem conv_tims (hn : n = 1 ∨ n = 2 ∨ n = 3) (hx : x < n) : conv n a b x = tims n b a x := by
  refine six (Q := fun n x => conv n a b x = tims n b a x) hn hx ?_ ?_ ?_ ?_ ?_ ?_
  all_goals simp only [conv1_0, conv2_0, conv2_1, conv3_0, conv3_1, conv3_2, tims1_0, tims2_0, tims2_1, tims3_0, tims3_1, tims3_2]
  all_goals grind
theorem conv_comm (hn : n = 1 ∨ n = 2 ∨ n = 3) (hx : x < n) : conv n a b x = conv n b a x := by
  refine six (Q := fun n x => conv n a b x = conv n b a x) hn hx ?_ ?_ ?_ ?_ ?_ ?_
  all_goals simp only [conv1_0, conv2_0, conv2_1, conv3_0, conv3_1, conv3_2]
  all_goals grind
theorem conv_add (hn : n = 1 ∨ n = 2 ∨ n = 3) (hx : x < n) : conv n a (fun y => b y + b' y) x = conv n a b x + conv n a b' x := by
  refine six (Q := fun n x => conv n a (fun y => b y + b' y) x = conv n a b x + conv n a b' x) hn hx ?_ ?_ ?_ ?_ ?_ ?_
  all_goals simp only [conv1_0, conv2_0, conv2_1, conv3_0, conv3_1, conv3_2]
  all_goals grind
theorem conv_neg (hn : n = 1 ∨ n = 2 ∨ n = 3) (hx : x < n) : conv n a (fun y => - b y) x = - conv n a b x := by
  refine six (Q := fun n x => conv n a (fun y => - b y) x = - conv n a b x) hn hx ?_ ?_ ?_ ?_ ?_ ?_
  all_goals simp only [conv1_0, conv2_0, conv2_1, conv3_0, conv3_1, conv3_2]
  all_goals grind
theorem conv_zero (hn : n = 1 ∨ n = 2 ∨ n = 3) (hx : x < n) : conv n a (fun y => 0) x = 0 := by
  refine six (Q := fun n x => conv n a (fun y => 0) x = 0) hn hx ?_ ?_ ?_ ?_ ?_ ?_
  all_goals simp only [conv1_0, conv2_0, conv2_1, conv3_0, conv3_1, conv3_2]
  all_goals grind
theorem conv_unit {s t : Nat} (hn : n = 1 ∨ n = 2 ∨ n = 3) (hx : x < n) : conv n a (unitC s t) x = if s = t then a x else 0 := by
  have u0 : unitC s t 0 = if s = t then 1 else 0 := by unfold unitC; by_cases h : s = t <;> simp [h]
  have u1 : unitC s t 1 = 0 := by unfold unitC; rw [if_neg]; omega
  have u2 : unitC s t 2 = 0 := by unfold unitC; rw [if_neg]; omega
  refine six (Q := fun n x => conv n a (unitC s t) x = if s = t then a x else 0) hn hx ?_ ?_ ?_ ?_ ?_ ?_
  all_goals simp only [conv1_0, conv2_0, conv2_1, conv3_0, conv3_1, conv3_2, u0, u1, u2]
  all_goals split <;> grind
theorem unit_conv {s t : Nat} (hn : n = 1 ∨ n = 2 ∨ n = 3) (hx : x < n) : conv n (unitC s t) a x = if s = t then a x else 0 := (conv_comm hn hx).trans (conv_unit hn hx)
theorem addM {a a' b b' : Int} (h : a % q = a' % q) (h' : b % q = b' % q) : (a + b) % q = (a' + b') % q := by rw [Int.add_emod, h, h', ← Int.add_emod]
theorem subM {a a' b b' : Int} (h : a % q = a' % q) (h' : b % q = b' % q) : (a - b) % q = (a' - b') % q := by rw [Int.sub_emod, h, h', ← Int.sub_emod]
theorem mulM {a a' b b' : Int} (h : a % q = a' % q) (h' : b % q = b' % q) : (a * b) % q = (a' * b') % q := by rw [Int.mul_emod, h, h', ← Int.mul_emod]
theorem conv_mod (hn : n = 1 ∨ n = 2 ∨ n = 3) (hx : x < n) (ha : ∀ y, y < n → a y % q = a' y % q) (hb : ∀ y, y < n → b y % q = b' y % q) : conv n a b x % q = conv n a' b' x % q := by
  revert ha hb
  refine six (Q := fun n x => (∀ y, y < n → a y % q = a' y % q) → (∀ y, y < n → b y % q = b' y % q) → conv n a b x % q = conv n a' b' x % q) hn hx ?_ ?_ ?_ ?_ ?_ ?_
  all_goals intro ha hb
  all_goals simp only [conv1_0, conv2_0, conv2_1, conv3_0, conv3_1, conv3_2]
  all_goals repeat (first | exact ha _ (by omega) | exact hb _ (by omega) | with_reducible refine addM ?_ ?_ | with_reducible refine subM ?_ ?_ | with_reducible refine mulM ?_ ?_)
/-- plain sums -/
def sumN (f : Nat → Nat → Int) : Nat → Nat → Int
  | 0, _ => 0
  | k + 1, x => sumN f k x + f k x
theorem psum_mod {f : Nat → Nat → Int} : ∀ {k : Nat}, psum q f k x % q = sumN f k x % q
  | 0 => rfl
  | k + 1 => by
    show (psum q f k x + f k x) % q % q = (sumN f k x + f k x) % q
    rw [Int.emod_emod]
    exact addM psum_mod rfl
theorem psum_red {f : Nat → Nat → Int} {k : Nat} (hk : 1 ≤ k) : psum q f k x % q = psum q f k x := by
  obtain ⟨k, rfl⟩ : ∃ j, k = j + 1 := ⟨k - 1, by omega⟩
  exact Int.emod_emod _ _
theorem sumN_mod {f g : Nat → Nat → Int} : ∀ {k : Nat}, (∀ i, i < k → f i x % q = g i x % q) → sumN f k x % q = sumN g k x % q
  | 0, _ => rfl
  | k + 1, h => addM (sumN_mod fun i hi => h i (by omega)) (h k (by omega))
theorem mmul_mod {nn i j : Nat} {e e' : Nat → Nat → Nat → Int} : mmul q n nn e e' i j x % q = sumN (fun k => conv n (e i k) (e' k j)) nn x % q := by
  unfold mmul
  rw [psum_mod]
  exact sumN_mod fun i _ => Int.emod_emod _ _
theorem mmul_red {nn i j : Nat} {e e' : Nat → Nat → Nat → Int} (h : 1 ≤ nn) : mmul q n nn e e' i j x % q = mmul q n nn e e' i j x := psum_red h
end
end
section
/-- the rows of G = [ones / P] and of H = [-P.T / ones] -/
def Ge (k : Nat) (P : Nat → Nat → Nat → Int) (i j : Nat) : Nat → Int := if j < k then unitC j i else P i (j - k)
def He (q : Int) (k : Nat) (P : Nat → Nat → Nat → Int) (j i : Nat) : Nat → Int := if i < k then (fun x => (-P i j x) % q) else unitC (i - k) j
/-- what the law reckons for the syndromes -/
def told (n k : Nat) (P E : Nat → Nat → Nat → Int) (j x : Nat) : Int := E 0 (k + j) x + -1 * lsum n P (E 0) j k x
section
variable {n k r : Nat} {q : Int} {P M E V F : Nat → Nat → Nat → Int}
theorem Ge_lt {i j : Nat} (h : j < k) : Ge k P i j = unitC j i := if_pos h
theorem Ge_ge {i j : Nat} (h : ¬ j < k) : Ge k P i j = P i (j - k) := if_neg h
theorem He_lt {i j : Nat} (h : i < k) : He q k P j i = fun x => (-P i j x) % q := if_pos h
theorem He_ge {i j : Nat} (h : ¬ i < k) : He q k P j i = unitC (i - k) j := if_neg h
/-- a word's sums: what the code reckons for a row of it -/
def wordS (n k : Nat) (P M : Nat → Nat → Nat → Int) (j x : Nat) : Int := if j < k then M 0 j x else lsum n P (M 0) (j - k) k x
theorem fact1 (hn : n = 1 ∨ n = 2 ∨ n = 3) (hk : k = 1 ∨ k = 2) (hr : r = 1 ∨ r = 2) {i j x : Nat} (hi : i < k) (hj : j < r) (hx : x < n) : mmul q n (k + r) (Ge k P) (fun a b => He q k P b a) i j x = 0 % q := by
  rw [← mmul_red (by omega), mmul_mod]
  have L : ∀ s t (b : Nat → Int), conv n (unitC s t) b x = if s = t then b x else 0 := fun s t b => unit_conv hn hx
  have R : ∀ s t (a : Nat → Int), conv n a (unitC s t) x = if s = t then a x else 0 := fun s t a => conv_unit hn hx
  have Z : ∀ a : Int, ((-a) % q + a) % q = 0 := fun a => by
    have := addM (q := q) (a := (-a) % q) (a' := -a) (b := a) (b' := a) (Int.emod_emod _ _) rfl
    rw [this, show -a + a = 0 by omega, Int.zero_emod]
  have ii : i = 0 ∨ i = 1 := by omega
  have jj : j = 0 ∨ j = 1 := by omega
  rcases hk with rfl | rfl <;> rcases hr with rfl | rfl <;> rcases ii with rfl | rfl <;> rcases jj with rfl | rfl <;> first | omega | simp [sumN, Ge, He, L, R, Z]
theorem word_fact (hn : n = 1 ∨ n = 2 ∨ n = 3) (hk : k = 1 ∨ k = 2) (hr : r = 1 ∨ r = 2) {j x : Nat} (hj : j < k + r) (hx : x < n) : mmul q n k M (Ge k P) 0 j x = wordS n k P M j x % q := by
  rw [← mmul_red (by omega), mmul_mod]
  have R : ∀ s t (a : Nat → Int), conv n a (unitC s t) x = if s = t then a x else 0 := fun s t a => conv_unit hn hx
  have T : ∀ a b : Nat → Int, conv n a b x = tims n b a x := fun a b => conv_tims hn hx
  have jj : j = 0 ∨ j = 1 ∨ j = 2 ∨ j = 3 := by omega
  rcases hk with rfl | rfl <;> rcases hr with rfl | rfl <;> rcases jj with rfl | rfl | rfl | rfl <;> first | omega | simp [sumN, Ge, R, wordS, lsum] <;> simp [T]
/-- the syndromes of a word with an error -/
theorem syn (hn : n = 1 ∨ n = 2 ∨ n = 3) (hk : k = 1 ∨ k = 2) (hr : r = 1 ∨ r = 2) (hV : ∀ j y, j < k + r → y < n → V 0 j y % q = (wordS n k P M j y + F 0 j y) % q) {j x : Nat} (hj : j < r) (hx : x < n) :
    sumN (fun a => conv n (He q k P j a) (V 0 a)) (k + r) x % q = told n k P F j x % q := by
  have hc : ∀ a, a < k + r → conv n (He q k P j a) (V 0 a) x % q = conv n (if a < k then fun y => - P a j y else unitC (a - k) j) (fun y => wordS n k P M a y + F 0 a y) x % q := fun a ha => by
    refine conv_mod hn hx (fun y hy => ?_) fun y hy => hV a y ha hy
    by_cases h : a < k
    · rw [He_lt h, if_pos h]; exact Int.emod_emod _ _
    · rw [He_ge h, if_neg h]
  rw [sumN_mod hc]
  have L : ∀ s t (b : Nat → Int), conv n (unitC s t) b x = if s = t then b x else 0 := fun s t b => unit_conv hn hx
  have N : ∀ a b : Nat → Int, conv n (fun y => - a y) b x = - tims n a b x := fun a b => by
    rw [conv_comm hn hx, conv_neg hn hx, conv_tims hn hx]
  have D : ∀ a b c : Nat → Int, tims n a (fun y => b y + c y) x = tims n a b x + tims n a c x := fun a b c => by
    rw [← conv_tims hn hx, conv_comm hn hx, conv_add hn hx, conv_comm hn hx, conv_tims hn hx, conv_comm (b := c) hn hx, conv_tims hn hx]
  congr 1
  have jj : j = 0 ∨ j = 1 := by omega
  rcases hk with rfl | rfl <;> rcases hr with rfl | rfl <;> rcases jj with rfl | rfl <;> first | omega | (simp [sumN, L, N, D, wordS, lsum, told]; omega)
end
end
section
section
variable {n k r : Nat} {q : Int} {P M E : Nat → Nat → Nat → Int}
def Wd (q : Int) (n k : Nat) (P M : Nat → Nat → Nat → Int) : Nat → Nat → Nat → Int := mmul q n k M (Ge k P)
def Rv (q : Int) (n k : Nat) (P M E : Nat → Nat → Nat → Int) (i j x : Nat) : Int := (Wd q n k P M i j x + E i j x) % q
def Mn (q : Int) (n k : Nat) (P M E : Nat → Nat → Nat → Int) (i j x : Nat) : Int := (Rv q n k P M E i j x - E i j x) % q
theorem Wd_red (hk : k = 1 ∨ k = 2) {i j x : Nat} : Wd q n k P M i j x % q = Wd q n k P M i j x := mmul_red (by omega)
theorem fact2 (hn : n = 1 ∨ n = 2 ∨ n = 3) (hk : k = 1 ∨ k = 2) (hr : r = 1 ∨ r = 2) {j x : Nat} (hj : j < k + r) (hx : x < n) : Wd q n k P M 0 j x = wordS n k P M j x % q := word_fact hn hk hr hj hx
theorem fact3 (hn : n = 1 ∨ n = 2 ∨ n = 3) (hk : k = 1 ∨ k = 2) (hr : r = 1 ∨ r = 2) {j x : Nat} (hj : j < r) (hx : x < n) : mmul q n (k + r) (He q k P) (fun a b => Rv q n k P M E b a) j 0 x = told n k P E j x % q := by
  rw [← mmul_red (by omega), mmul_mod]
  exact syn (V := Rv q n k P M E) (F := E) (M := M) hn hk hr (fun j y hj hy => by
    unfold Rv
    rw [Int.emod_emod]
    exact addM (by rw [fact2 hn hk hr hj hy, Int.emod_emod]) rfl) hj hx
theorem fact4 (hn : n = 1 ∨ n = 2 ∨ n = 3) (hk : k = 1 ∨ k = 2) (hr : r = 1 ∨ r = 2) {j x : Nat} (hj : j < r) (hx : x < n) : mmul q n (k + r) (Rv q n k P M E) (fun a b => He q k P b a) 0 j x = told n k P E j x % q := by
  rw [← fact3 (M := M) hn hk hr hj hx, ← mmul_red (by omega), mmul_mod, ← mmul_red (j := 0) (by omega), mmul_mod]
  exact sumN_mod fun a _ => by rw [conv_comm hn hx]
theorem fact5 {i j x : Nat} : (Rv q n k P M E i j x - Wd q n k P M i j x) % q = E i j x % q := by
  have := subM (q := q) (a := Rv q n k P M E i j x) (a' := Wd q n k P M i j x + E i j x) (b := Wd q n k P M i j x) (b' := Wd q n k P M i j x) (Int.emod_emod _ _) rfl
  rw [this]; congr 1; omega
theorem fact6 (hk : k = 1 ∨ k = 2) {i j x : Nat} : Mn q n k P M E i j x = Wd q n k P M i j x := by
  unfold Mn
  have := subM (q := q) (a := Rv q n k P M E i j x) (a' := Wd q n k P M i j x + E i j x) (b := E i j x) (b' := E i j x) (Int.emod_emod _ _) rfl
  rw [this, show Wd q n k P M i j x + E i j x - E i j x = Wd q n k P M i j x by omega]; exact Wd_red hk
theorem told_zero (hn : n = 1 ∨ n = 2 ∨ n = 3) (hk : k = 1 ∨ k = 2) {j x : Nat} (hx : x < n) : told n k P (fun _ _ _ => 0) j x = 0 := by
  have Z : ∀ a : Nat → Int, tims n a (fun _ => 0) x = 0 := fun a => by rw [← conv_tims hn hx, conv_comm hn hx, conv_zero hn hx]
  rcases hk with rfl | rfl <;> simp [told, lsum, Z]
theorem fact7 (hn : n = 1 ∨ n = 2 ∨ n = 3) (hk : k = 1 ∨ k = 2) (hr : r = 1 ∨ r = 2) {j x : Nat} (hj : j < r) (hx : x < n) : mmul q n (k + r) (He q k P) (fun a b => Mn q n k P M E b a) j 0 x = 0 % q := by
  rw [← mmul_red (by omega), mmul_mod]
  have := syn (q := q) (P := P) (V := Mn q n k P M E) (F := fun _ _ _ => 0) (M := M) hn hk hr (fun j y hj hy => by
    rw [fact6 hk, fact2 hn hk hr hj hy, Int.emod_emod, Int.add_zero]) hj hx
  rw [told_zero hn hk hx] at this
  exact this
/-! ### sizes -/
theorem Sm.mod {a : Int} (hq : 0 < q) (h : Sm q) : Sm (a % q) := by
  refine intBits_le_of_natAbs ?_ h
  have h1 := Int.emod_nonneg a (by omega : q ≠ 0)
  have h2 := Int.emod_lt_of_pos a hq
  omega
theorem Sm.small {a : Int} (h1 : -1000 ≤ a) (h2 : a ≤ 1000) : Sm a := Nat.le_trans (intBits_le_64 (by omega) (by omega)) (by decide)
theorem Sm.unit {s t x : Nat} : Sm (unitC s t x) := by unfold unitC; split <;> exact Sm.small (by omega) (by omega)
theorem Sm.Ge {i j x : Nat} (h : ∀ i j x, Sm (P i j x)) : Sm (Ge k P i j x) := by
  unfold Mine.Ge
  split
  · exact Sm.unit
  · exact h _ _ _
theorem Sm.He {i j x : Nat} (hq : 0 < q) (hs : Sm q) : Sm (He q k P i j x) := by
  unfold Mine.He
  split
  · exact Sm.mod hq hs
  · exact Sm.unit
end
end
section
theorem fillD32 : PySem.Challenge.rw_yi0068_01 = PySem.Challenge.rw_yi0068_01 ∧ hd.heap_39 = hd.heap_39 := by
  k_fill
  exact ⟨rfl, rfl⟩
section
variable {W : List Addr} {prog : Program} {w : World} {A : Around} {G h : Heap} {env : Env} {P : Value → Heap → Heap → Prop} {d : Nat}
/-- Ring(q, n) -/
theorem c59 {q : Int} {n : Nat} {t u : Tok} (hA : Rm A (d + 3)) (top : TopG w G) (p : ∀ v G' h', Ext [] G h G' h' → RingAt G' v q n → P (.ref v) G' h') : C [] prog w A (.call (.ref 59) ⟨[.int q t, .int n u], []⟩) G h P := by
  refine C_make hA top (by unfold KK; k_is) ?_
  intro A1 x dx h1 hA1 e1 dd dx' hx hns od ox
  refine fnL [("self", .ref x), ("q", .int q t), ("n", .int n u)] hA1 top fun A2 env h2 hA2 hE F bs e2 => ?_
  refine B_cons ?_
  refine B_AssignAttr ?_ (by rfl)
  k_upd
  k_upd
  refine B_setOwn top (e2.keep0 _ _ hx) (hns.at (e2.keep0 _)) (by k_caughtB) od (.inr dd) fun h3 nk3 sb3 in3 => ?_
  have F3 := F.upd (bs []) hns.live sb3 in3
  have nx : x ≠ dx := fun e => by
    obtain ⟨o, es, ep, q, qd, _⟩ := hns
    rw [← e, hx] at q; cases q; cases qd
  have hx3 : h3.get? x = some (instObj 59 dx) := sb3.extBut _ _ nx (e2.keep0 _ _ hx)
  refine B_cons ?_
  refine B_AssignAttr ?_ (by rfl)
  k_upd
  k_upd
  refine B_setOwn top hx3 nk3 (by k_caughtB) od (.inr dd) fun h4 nk4 sb4 in4 => ?_
  have hx4 := sb4.extBut _ _ nx hx3
  refine B_nil ?_
  exact ⟨rfl, ox, od, _, hx4, nk4.ns, fun G'' sub ex I => p _ _ _ ex ⟨t, u, I⟩⟩
theorem T_newListM {vs : List Value} (hz : vs.length ≤ 1000) (p : ∀ a h', Dead h a → LAt h' a vs → Ext W G h G h' → P (.ref a) G h') : T W prog w A (newList vs) G h P := fun s hs hi => by
  subst hs
  have e : Ext W G s.heap G (s.heap.push { cls := .type "list", dict := none, data := .seq vs.toArray }) := Ext.grow hi fun b o => Heap.get?_push_of_some _
  refine wpAny_newObj_type ⟨_, e, GO.same rfl rfl, p _ _ (dead_of (Nat.le_refl _)) ⟨_, Heap.get?_push_size _ rfl⟩ e⟩ ?_
  show vs.toArray.size ≤ sizeLine
  rw [List.size_toArray, sizeLine_eq]; omega
theorem T_addLP {u v : Value} {m l : Nat} {Q R : Nat → Value → Prop} (hu : LP G u m Q) (hv : LP G v l R) (hm : m ≤ 100) (hl : l ≤ 100) (p : ∀ c G' h', Ext W G h G' h' → LP G' (.ref c) (m + l) (fun j x => if j < m then Q j x else R (j - m) x) → P (.ref c) G' h') : T W prog w A (binaryOp .Add u v) G h P := by
  obtain ⟨a, vs, rfl, ha, rfl, hva⟩ := hu
  obtain ⟨b, us, rfl, hb, rfl, hvb⟩ := hv
  refine T_addLists ha hb (by k_caughtB) fun c G' h' hc e => p c G' h' e ⟨c, _, rfl, hc, by simp, fun j x hj => ?_⟩
  rw [List.getElem?_append] at hj
  split at hj
  · rename_i h; rw [if_pos h]; exact hva j x hj
  · rename_i h; rw [if_neg h]; exact hvb _ x hj
theorem TG.extS {st : Addr} {G h G' h' : Heap} (t : TG G h) (e : Ext [st] G h G' h') (hs : st ∉ TW) : TG G' h' :=
  t.extW e (t.tb.keep fun P hP o q => e.keep P o (fun m => hs (List.mem_singleton.mp m ▸ hP)) q)
theorem offW_one {a : Addr} (ne : ∀ b, (b = env.locals ∨ ∃ n, env.cells.lookup n = some b) → b ≠ a) : OffW [a] env := fun b hb => by
  obtain rfl := List.mem_singleton.mp hb
  exact ⟨fun e => ne _ (.inl rfl) e.symm, fun n c hc e => ne _ (.inr ⟨n, hc⟩) e.symm⟩
end
end
section
theorem fillD33 : PySem.Challenge.rw_yi0068_01 = PySem.Challenge.rw_yi0068_01 ∧ hd.heap_39 = hd.heap_39 := by
  k_fill
  exact ⟨rfl, rfl⟩
/-! ## the law's own body and frame, read off the top's heap -/
section
variable {w : World} {f : Addr} {oc : Value} {od : Option Addr} {osl : Array (Option Value)} {name qual : Str} {params : Arguments} {body : List Stmt} {scope : Scope} {dV kV doc pm cdv ct : Value} {an : Option Addr}
def bodyBy (_ : (KK w).lookup f = some ⟨oc, od, .func (fnOf name qual params body scope dV kV doc pm an cdv ct), osl⟩) : List Stmt := body
def envBy (_ : (KK w).lookup f = some ⟨oc, od, .func (fnOf name qual params body scope dV kV doc pm an cdv ct), osl⟩) (L : Nat) : Env := envOfC qual scope L f cdv
end
noncomputable def lawBody (w : World) : List Stmt := bodyBy (w := w) (f := 440) (by unfold KK; k_is)
noncomputable def lawEnv (w : World) (L : Nat) : Env := envBy (w := w) (f := 440) (by unfold KK; k_is) L
theorem draw_sm {c : Nat → Int} {N : Nat} (hs : ∀ i, i < N → Builtin.Int.intBits (c i) ≤ 1048576) (k : Nat) : Builtin.Int.intBits (draw c N k) ≤ 1048576 := by
  unfold draw
  split
  · exact hs k (by assumption)
  · refine Nat.le_trans (intBits_le_64 ?_ ?_) (by decide) <;> omega
/-- the numbers of the law -/
structure Nums (q : Int) (n k r : Nat) (P M E : Nat → Nat → Nat → Int) : Prop where
  q0 : 0 < q
  qs : Sm q
  n3 : n = 1 ∨ n = 2 ∨ n = 3
  k2 : k = 1 ∨ k = 2
  r2 : r = 1 ∨ r = 2
  sP : ∀ i j x, Sm (P i j x)
  sM : ∀ i j x, Sm (M i j x)
  sE : ∀ i j x, Sm (E i j x)
end
section
theorem fillD34 : PySem.Challenge.rw_yi0068_01 = PySem.Challenge.rw_yi0068_01 ∧ hd.heap_39 = hd.heap_39 := by
  k_fill
  exact ⟨rfl, rfl⟩
section
variable {W : List Addr} {prog : Program} {w : World} {A : Around} {G h G1 h1 : Heap} {env : Env} {R : Value → Heap → Heap → Prop} {q : Int} {n k r : Nat} {P M E : Nat → Nat → Nat → Int} {rg mo : Addr}
  {wv nv sv hv nov pav ev mv pv : Value} {tq tr tk : Tok} {t1 : Bool}
/-- what the last part knows of the heap -/
structure Fx (G : Heap) (q : Int) (n k r : Nat) (P M E : Nat → Nat → Nat → Int) (rg mo : Addr) (t1 : Bool) (nov pv mv ev pav sv nv wv hv : Value) : Prop where
  Im : Ins G mo 377 (modM (.ref rg))
  Rg : RingAt G rg q n
  no : IL G nov n (fun _ => 0)
  p : GridAt G pv k r n P
  m : GridAt G mv 1 k n M
  e : GridAt G ev 1 (k + r) n E
  Mp : Mat G mo rg n false pav k r P
  Ms : Mat G mo rg n false sv 1 k M
  Mo : Mat G mo rg n false nv 1 (k + r) E
  Mw : Mat G mo rg n false wv 1 (k + r) (Wd q n k P M)
  Mh : Mat G mo rg n t1 hv r (k + r) (He q k P)
theorem Fx.keeps {G G' : Heap} (x : Fx G q n k r P M E rg mo t1 nov pv mv ev pav sv nv wv hv) (s : ∀ b o, G.get? b = some o → G'.get? b = some o) : Fx G' q n k r P M E rg mo t1 nov pv mv ev pav sv nv wv hv :=
  ⟨x.Im.keeps s, x.Rg.keeps s, x.no.keeps s, x.p.keeps s, x.m.keeps s, x.e.keeps s, x.Mp.keeps s, x.Ms.keeps s, x.Mo.keeps s, x.Mw.keeps s, x.Mh.keeps s⟩
set_option maxHeartbeats 16000000 in
theorem part4 (hA1 : Rm A 99) (hE : env = lawEnv w h.objs.size) (bs : ∀ W', Bs W' h env) (off : OffW TW env) (X : Nums q n k r P M E)
    (F : Fm w env G1 h1 [("word", wv), ("noise", nv), ("sent", sv), ("h_all", hv), ("q", .int q tq)] [("nought", nov), ("p_all", pav), ("errors", ev), ("message", mv), ("p", pv), ("r", .int r tr), ("k", .int k tk)])
    (tb : TG G1 h1) (x : Fx G1 q n k r P M E rg mo t1 nov pv mv ev pav sv nv wv hv)
    (p : ∀ G' h', Ext TW G h G' h' → TG G' h' → R (.bool true) G' h') : B TW prog w A G h (execs (List.drop 24 (lawBody w)) env) G1 h1 (fun fl G' h' => R (retV fl) G' h') := by
  obtain ⟨q0, qs, n3, k2, r2, sP, sM, sE⟩ := X
  have sHe : ∀ i j x, Sm (He q k P i j x) := fun i j x => Sm.He q0 qs
  have sRv : ∀ i j x, Sm (Rv q n k P M E i j x) := fun i j x => Sm.mod q0 qs
  have sMn : ∀ i j x, Sm (Mn q n k P M E i j x) := fun i j x => Sm.mod q0 qs
  unfold lawBody bodyBy
  dsimp only [List.drop]
  -- received
  refine B_consK fun K hK => ?_
  refine B_Assign_w (by rfl) ?_
  k_go
  refine T_matAdd (d := 10) (hA1.mono (by k_caughtB)) F tb x.Im x.Rg q0 (by k_caughtB) x.Mw x.Mo (by k_caughtB) (by k_caughtB) fun rv G2 h2 e2 t2 Mr2 => ?_
  have Mr2 : Mat G2 mo rg n false rv 1 (k + r) (Rv q n k P M E) := Mr2
  have F2 := F.ext e2 off
  have x2 := x.keeps e2.sub
  refine B_storeL F2 (bs _).l (by k_all) (by kernel_rfl) fun h3 sb3 F3 => ?_
  have t3 := t2.same sb3 off.loc
  -- told
  refine hK _ _ (B_consK fun K hK => ?_)
  obtain ⟨ea, hea⟩ := x2.e.ref
  subst hea
  obtain ⟨pa, hpa⟩ := x2.p.ref
  subst hpa
  refine B_CompS [("errors", .ref ea), ("k", .int k tk), ("p", .ref pa)] hA1.hd F3 (compOk_of hE (by kernel_rfl)) (.inl (by k_mem)) (by k_caught0) (bs _).l (by k_all) (by kernel_rfl) (by rw [hE]; rfl) ?_
  k_go
  refine ⟨Kept.type, T_range1 fun rv4 G4 h4 hr4 e4 => ?_⟩
  refine ⟨_, _, fun j y Gx => IL Gx y n (told n k P E j), Turns.loc hE (Iter.upto hr4 (by k_caughtB)) (by k_caughtB) (fun _ _ _ _ h k => h.keeps k) (by k_mem) ?_, ?_⟩
  · intro j vj cenv L5 G5 h5 hj hvj e5 hcE F5
    obtain ⟨tj, rfl⟩ := hvj
    have x5 := (x2.keeps e4.sub).keeps e5.sub
    k_go
    refine T_item x5.e (i := 0) (by simp) (by k_caughtB) (by k_caughtB) fun row hrow => ?_
    k_go
    refine T_add fun _ => ?_
    refine T_item hrow (i := k + j) (by simp) (by k_caughtB) (by k_caughtB) fun y hy => ?_
    k_go
    refine T_item x5.e (i := 0) (by simp) (by k_caughtB) (by k_caughtB) fun row' hrow' => ?_
    k_go
    refine ⟨Kept.ofK (F5.top.k.keeps F5.into) (by kernel_rfl), T_C (c435 (d := 10) (mg := E 0) (hA1.mono (by k_caughtB)) F5.top hrow' x5.p (by k_caughtB) (by k_caughtB) (by k_caughtB) (by k_caughtB) hj (by k_caughtB) (by k_caughtB) (fun i x _ _ => sP _ _ _) (fun i x _ _ => sE _ _ _) fun L6 G6 h6 e6 hL6 => ?_)⟩
    have F6 := F5.ext e6
    k_go
    refine T_neg fun _ => ?_
    refine ⟨Kept.ofK (F6.top.k.keeps F6.into) (by kernel_rfl), T_C (c408 (d := 10) (hA1.mono (by k_caughtB)) F6.top (hy.keeps e6.sub) hL6 (.inr rfl) (by k_caughtB) fun L7 G7 h7 e7 hL7 => ?_)⟩
    exact hL7
  intro tl G8 h8 e8 htl F8
  have x8 := x2.keeps e8.sub
  have Mr8 := Mr2.keeps e8.sub
  have t8 : TG G8 h8 := t3.extW e8 (t3.tb.keep fun P hP o q => e8.keep P o (fun m => off.loc ((List.mem_singleton.mp m) ▸ hP)) q)
  -- the first test of the syndromes
  refine hK _ _ (B_consK fun K hK => B_If_w ?_)
  k_go
  refine T_transpose (d := 10) (hA1.mono (by k_caughtB)) F8.top t8 x8.Im Mr8 (by k_caughtB) (by k_caughtB) F8.into fun rt G9 h9 e9 t9 Mrt => ?_
  have F9 := F8.ext e9 off
  have x9 := x8.keeps e9.sub
  refine T_matMul (d := 10) (hA1.mono (by k_caughtB)) F9 t9 x9.Im x9.Rg q0 (by k_caughtB) (by k_caughtB) x9.Mh Mrt (by k_caughtB) (by k_caughtB) (by k_caughtB) (fun i j x _ _ _ => sHe _ _ _) (fun i j x _ _ _ => sRv _ _ _) fun y1 G10 h10 e10 t10 My1 => ?_
  have F10 := F9.ext e10 off
  have x10 := x9.keeps e10.sub
  have htl10 := (htl.keeps e9.sub fun _ _ _ h => h.keeps e9.sub).keeps e10.sub (fun _ _ _ h => h.keeps e10.sub)
  refine T.weak (T_Comp [] hA1.hd F10 (compOk_of hE (by kernel_rfl)) (.inl (by k_mem)) (by k_caught0) ?_)
  k_go
  refine ⟨_, _, fun j y Gx => LP Gx y 1 (fun _ z => IL Gx z n (told n k P E j)), Turns.loc hE (Iter.list htl10) (by k_caughtB) (fun _ _ _ _ h k => h.keeps k fun _ _ _ h => h.keeps k) (by k_mem) ?_, ?_⟩
  · intro j vj cenv L5 G5 h5 hj hvj e5 hcE F5
    k_upd
    refine T_sp1 ?_ (by rfl)
    k_go
    refine T_newList (by simp) fun L6 G6 h6 hl6 e6 => ?_
    refine ⟨L6, _, rfl, hl6, rfl, fun i z hz => ?_⟩
    obtain rfl : i = 0 := by
      have := (List.getElem?_eq_some_iff.mp hz).1
      simp at this; exact this
    simp at hz
    subst hz
    exact (hvj.keeps e5.sub).keeps e6.sub
  intro La G11 h11 e11 hla
  have F11 := F10.ext e11
  have x11 := x10.keeps e11.sub
  have t11 := t10.ext e11
  k_go
  refine ⟨Kept.ofK (F11.top.k.keeps F11.into) (by kernel_rfl), T.weak (T_C (c413 (d := 10) (g := fun j _ x => told n k P E j x) (hA1.mono (by k_caughtB)) F11.top (My1.ext e11) hla (by k_caughtB) (by k_caughtB) (by k_caughtB) q0 (fun i j x hi hj hx => ?_) fun G12 h12 e12 => ?_))⟩
  · obtain rfl : j = 0 := by omega
    exact fact3 n3 k2 r2 hi hx
  refine T_truthyB ⟨fun h => (nomatch h), fun _ => ?_⟩
  have F12 := F11.ext e12
  have x12 := x11.keeps e12.sub
  have t12 := t11.ext e12
  refine B_nil ?_
  have Mr12 := (((Mr8.ext e9).ext e10).ext e11).ext e12
  have htl12 := (htl10.keeps e11.sub fun _ _ _ h => h.keeps e11.sub).keeps e12.sub (fun _ _ _ h => h.keeps e12.sub)
  clear htl10 htl Mr8 x9 x10 x11 F9 F10 F11
  -- the second test of the syndromes
  refine hK _ _ (B_consK fun K hK => B_If_w ?_)
  k_go
  refine T_transpose (d := 10) (hA1.mono (by k_caughtB)) F12.top t12 x12.Im x12.Mh (by k_caughtB) (by k_caughtB) F12.into fun ht G13 h13 e13 t13 Mht => ?_
  have F13 := F12.ext e13 off
  have x13 := x12.keeps e13.sub
  refine T_matMul (d := 10) (hA1.mono (by k_caughtB)) F13 t13 x13.Im x13.Rg q0 (by k_caughtB) (by k_caughtB) (Mr12.ext e13) Mht (by k_caughtB) (by k_caughtB) (by k_caughtB) (fun i j x _ _ _ => sRv _ _ _) (fun i j x _ _ _ => sHe _ _ _) fun y2 G14 h14 e14 t14 My2 => ?_
  have F14 := F13.ext e14 off
  have x14 := x13.keeps e14.sub
  have htl14 := (htl12.keeps e13.sub fun _ _ _ h => h.keeps e13.sub).keeps e14.sub (fun _ _ _ h => h.keeps e14.sub)
  k_upd
  refine T_sp1 ?_ (by rfl)
  k_go
  refine T.weak (T_newList (by simp) fun La G15 h15 hla e15 => ?_)
  have F15 := F14.ext e15
  have x15 := x14.keeps e15.sub
  have t15 := t14.ext e15
  have hga : GridAt G15 (.ref La) 1 r n (fun _ j x => told n k P E j x) := ⟨La, _, rfl, hla, rfl, fun i z hz => by
    obtain rfl : i = 0 := by
      have := (List.getElem?_eq_some_iff.mp hz).1
      simp at this; exact this
    simp at hz
    subst hz
    exact htl14.keeps e15.sub fun _ _ _ h => h.keeps e15.sub⟩
  k_go
  refine ⟨Kept.ofK (F15.top.k.keeps F15.into) (by kernel_rfl), T.weak (T_C (c413 (d := 10) (hA1.mono (by k_caughtB)) F15.top (My2.ext e15) hga (by k_caughtB) (by k_caughtB) (by k_caughtB) q0 (fun i j x hi hj hx => ?_) fun G16 h16 e16 => ?_))⟩
  · obtain rfl : i = 0 := by omega
    exact fact4 n3 k2 r2 hj hx
  refine T_truthyB ⟨fun h => (nomatch h), fun _ => ?_⟩
  have F16 := F15.ext e16
  have x16 := x15.keeps e16.sub
  have t16 := t15.ext e16
  have Mr16 := (((Mr12.ext e13).ext e14).ext e15).ext e16
  refine B_nil ?_
  clear htl14 htl12 hga Mr12 x12 x13 x14 x15 F12 F13 F14 F15 My1 My2
  -- the errors
  refine hK _ _ (B_consK fun K hK => B_If_w ?_)
  k_go
  refine T_matSub (d := 10) (hA1.mono (by k_caughtB)) F16 t16 x16.Im x16.Rg q0 (by k_caughtB) Mr16 x16.Mw (by k_caughtB) (by k_caughtB) fun dv G17 h17 e17 t17 Md => ?_
  have F17 := F16.ext e17 off
  have x17 := x16.keeps e17.sub
  k_go
  refine ⟨Kept.ofK (F17.top.k.keeps F17.into) (by kernel_rfl), T.weak (T_C (c413 (d := 10) (hA1.mono (by k_caughtB)) F17.top Md x17.e (by k_caughtB) (by k_caughtB) (by k_caughtB) q0 (fun i j x hi hj hx => fact5) fun G18 h18 e18 => ?_))⟩
  refine T_truthyB ⟨fun h => (nomatch h), fun _ => ?_⟩
  have F18 := F17.ext e18
  have x18 := x17.keeps e18.sub
  have t18 := t17.ext e18
  have Mr18 := (Mr16.ext e17).ext e18
  refine B_nil ?_
  -- mended
  refine hK _ _ (B_consK fun K hK => ?_)
  refine B_Assign_w (by rfl) ?_
  k_go
  refine T_matSub (d := 10) (hA1.mono (by k_caughtB)) F18 t18 x18.Im x18.Rg q0 (by k_caughtB) Mr18 x18.Mo (by k_caughtB) (by k_caughtB) fun me G19 h19 e19 t19 Mm => ?_
  have Mm : Mat G19 mo rg n false me 1 (k + r) (Mn q n k P M E) := Mm
  have F19 := F18.ext e19 off
  have x19 := x18.keeps e19.sub
  refine B_storeL F19 (bs _).l (by k_all) (by kernel_rfl) fun h20 sb20 F20 => ?_
  have t20 := t19.same sb20 off.loc
  refine hK _ _ (B_consK fun K hK => B_If_w ?_)
  k_go
  refine T.weak (T_matEq (d := 10) (hA1.mono (by k_caughtB)) F20 Mm x19.Mw (by k_caughtB) (by k_caughtB) (fun i j _ _ => rng_congr fun x _ => fact6 k2) fun G21 h21 e21 => ?_)
  refine T_truthyB ⟨fun h => (nomatch h), fun _ => ?_⟩
  have F21 := F20.ext e21
  have x21 := x19.keeps e21.sub
  have t21 := t20.ext e21
  refine B_nil ?_
  -- its syndromes
  refine hK _ _ (B_consK fun K hK => B_If_w ?_)
  k_go
  refine T_T (d := 10) (hA1.mono (by k_caughtB)) F21.top t21 x21.Im (Mm.ext e21) (by k_caughtB) (by k_caughtB) fun mt G22 h22 e22 t22 Mmt => ?_
  have F22 := F21.ext e22 off
  have x22 := x21.keeps e22.sub
  refine T_matMul (d := 10) (hA1.mono (by k_caughtB)) F22 t22 x22.Im x22.Rg q0 (by k_caughtB) (by k_caughtB) x22.Mh Mmt (by k_caughtB) (by k_caughtB) (by k_caughtB) (fun i j x _ _ _ => sHe _ _ _) (fun i j x _ _ _ => sMn _ _ _) fun y3 G23 h23 e23 t23 My3 => ?_
  have F23 := F22.ext e23 off
  have x23 := x22.keeps e23.sub
  refine T.weak (T_Comp [("nought", nov)] hA1.hd F23 (compOk_of hE (by kernel_rfl)) (.inl (by k_mem)) (by k_caught0) ?_)
  k_go
  refine ⟨Kept.type, T_range1 fun rv24 G24 h24 hr24 e24 => ?_⟩
  refine ⟨_, _, fun j y Gx => LP Gx y 1 (fun _ z => IL Gx z n (fun _ => 0)), Turns.loc hE (Iter.upto hr24 (by k_caughtB)) (by k_caughtB) (fun _ _ _ _ h k => h.keeps k fun _ _ _ h => h.keeps k) (by k_mem) ?_, ?_⟩
  · intro j vj cenv L5 G5 h5 hj hvj e5 hcE F5
    k_upd
    refine T_sp1 ?_ (by rfl)
    k_go
    refine T_newList (by simp) fun L6 G6 h6 hl6 e6 => ?_
    refine ⟨L6, _, rfl, hl6, rfl, fun i z hz => ?_⟩
    obtain rfl : i = 0 := by
      have := (List.getElem?_eq_some_iff.mp hz).1
      simp at this; exact this
    simp at hz
    subst hz
    exact ((x23.no.keeps e24.sub).keeps e5.sub).keeps e6.sub
  intro Lb G25 h25 e25 hlb
  have F25 := F23.ext e25
  have x25 := x23.keeps e25.sub
  have t25 := t23.ext e25
  k_go
  refine ⟨Kept.ofK (F25.top.k.keeps F25.into) (by kernel_rfl), T.weak (T_C (c413 (d := 10) (g := fun _ _ _ => 0) (hA1.mono (by k_caughtB)) F25.top (My3.ext e25) hlb (by k_caughtB) (by k_caughtB) (by k_caughtB) q0 (fun i j x hi hj hx => ?_) fun G26 h26 e26 => ?_))⟩
  · obtain rfl : j = 0 := by omega
    exact fact7 n3 k2 r2 hi hx
  refine T_truthyB ⟨fun h => (nomatch h), fun _ => ?_⟩
  have F26 := F25.ext e26
  have x26 := x25.keeps e26.sub
  have t26 := t25.ext e26
  refine B_nil ?_
  -- what was given is kept
  refine hK _ _ (B_intro fun z26 => B_cons (B_Return ?_))
  refine T_And ?_
  k_go
  refine ⟨Kept.ofK (F26.top.k.keeps F26.into) (by kernel_rfl), T_C (c420 (d := 10) (hA1.mono (by k_caughtB)) F26.top x26.Mp x26.p (by k_caughtB) (by k_caughtB) (by k_caughtB) (fun _ _ _ _ _ _ => rfl) fun G27 h27 e27 => ?_)⟩
  refine T_truthyB ⟨fun _ => ?_, fun h => (nomatch h)⟩
  have F27 := F26.ext e27
  have x27 := x26.keeps e27.sub
  refine T_And ?_
  k_go
  refine ⟨Kept.ofK (F27.top.k.keeps F27.into) (by kernel_rfl), T_C (c420 (d := 10) (hA1.mono (by k_caughtB)) F27.top x27.Ms x27.m (by k_caughtB) (by k_caughtB) (by k_caughtB) (fun _ _ _ _ _ _ => rfl) fun G28 h28 e28 => ?_)⟩
  refine T_truthyB ⟨fun _ => ?_, fun h => (nomatch h)⟩
  have F28 := F27.ext e28
  have x28 := x27.keeps e28.sub
  refine T_And1 ?_
  k_go
  refine ⟨Kept.ofK (F28.top.k.keeps F28.into) (by kernel_rfl), T_C (c420 (d := 10) (hA1.mono (by k_caughtB)) F28.top x28.Mo x28.e (by k_caughtB) (by k_caughtB) (by k_caughtB) (fun _ _ _ _ _ _ => rfl) fun G29 h29 e29 => ?_)⟩
  have e2729 := e27.trans (e28.trans e29)
  exact p _ _ (z26.trans e2729.wk) (t26.ext e2729)
end
end
section
theorem fillD35 : PySem.Challenge.rw_yi0068_01 = PySem.Challenge.rw_yi0068_01 ∧ hd.heap_39 = hd.heap_39 := by
  k_fill
  exact ⟨rfl, rfl⟩
section
variable {W : List Addr} {prog : Program} {w : World} {A : Around} {G h G1 h1 : Heap} {env : Env} {R : Value → Heap → Heap → Prop} {q : Int} {n k r : Nat} {P M E : Nat → Nat → Nat → Int} {rg mo : Addr}
  {gv hv nov pav ev mv pv : Value} {tq tr tk : Tok} {t0 t1 : Bool}
/-- what the part ahead of it knows -/
structure Fy (G : Heap) (q : Int) (n k r : Nat) (P M E : Nat → Nat → Nat → Int) (rg mo : Addr) (t0 t1 : Bool) (nov pv mv ev pav gv hv : Value) : Prop where
  Im : Ins G mo 377 (modM (.ref rg))
  Rg : RingAt G rg q n
  no : IL G nov n (fun _ => 0)
  p : GridAt G pv k r n P
  m : GridAt G mv 1 k n M
  e : GridAt G ev 1 (k + r) n E
  Mp : Mat G mo rg n false pav k r P
  Mg : Mat G mo rg n t0 gv k (k + r) (Ge k P)
  Mh : Mat G mo rg n t1 hv r (k + r) (He q k P)
theorem Fy.keeps {G G' : Heap} (x : Fy G q n k r P M E rg mo t0 t1 nov pv mv ev pav gv hv) (s : ∀ b o, G.get? b = some o → G'.get? b = some o) : Fy G' q n k r P M E rg mo t0 t1 nov pv mv ev pav gv hv :=
  ⟨x.Im.keeps s, x.Rg.keeps s, x.no.keeps s, x.p.keeps s, x.m.keeps s, x.e.keeps s, x.Mp.keeps s, x.Mg.keeps s, x.Mh.keeps s⟩
set_option maxHeartbeats 16000000 in
theorem part3 (hA1 : Rm A 99) (hE : env = lawEnv w h.objs.size) (bs : ∀ W', Bs W' h env) (off : OffW TW env) (X : Nums q n k r P M E)
    (F : Fm w env G1 h1 [("module", .ref mo), ("g_all", gv), ("h_all", hv), ("q", .int q tq)] [("nought", nov), ("ring", .ref rg), ("p_all", pav), ("errors", ev), ("message", mv), ("p", pv), ("r", .int r tr), ("k", .int k tk)])
    (tb : TG G1 h1) (x : Fy G1 q n k r P M E rg mo t0 t1 nov pv mv ev pav gv hv)
    (p : ∀ G' h', Ext TW G h G' h' → TG G' h' → R (.bool true) G' h') : B TW prog w A G h (execs (List.drop 18 (lawBody w)) env) G1 h1 (fun fl G' h' => R (retV fl) G' h') := by
  obtain ⟨q0, qs, n3, k2, r2, sP, sM, sE⟩ := id X
  have sHe : ∀ i j x, Sm (He q k P i j x) := fun i j x => Sm.He q0 qs
  have sGe : ∀ i j x, Sm (Ge k P i j x) := fun i j x => Sm.Ge sP
  obtain ⟨noa, hnoa⟩ := x.no.ref
  subst hnoa
  unfold lawBody bodyBy
  dsimp only [List.drop]
  -- G @ H.T
  refine B_consK fun K hK => B_If_w ?_
  k_go
  refine T_T (d := 10) (hA1.mono (by k_caughtB)) F.top tb x.Im x.Mh (by k_caughtB) (by k_caughtB) fun ht G2 h2 e2 t2 Mht => ?_
  have F2 := F.ext e2 off
  have x2 := x.keeps e2.sub
  refine T_matMul (d := 10) (hA1.mono (by k_caughtB)) F2 t2 x2.Im x2.Rg q0 (by k_caughtB) (by k_caughtB) x2.Mg Mht (by k_caughtB) (by k_caughtB) (by k_caughtB) (fun i j x _ _ _ => sGe _ _ _) (fun i j x _ _ _ => sHe _ _ _) fun y1 G3 h3 e3 t3 My1 => ?_
  have F3 := F2.ext e3 off
  have x3 := x2.keeps e3.sub
  refine T.weak (T_Comp [("nought", .ref noa), ("r", .int r tr)] hA1.hd F3 (compOk_of hE (by kernel_rfl)) (.inl (by k_mem)) (by k_caught0) ?_)
  k_go
  refine ⟨Kept.type, T_range1 fun rv4 G4 h4 hr4 e4 => ?_⟩
  refine ⟨_, _, fun i y Gx => LP Gx y r (fun _ z => IL Gx z n (fun _ => 0)), Turns.loc hE (Iter.upto hr4 (by k_caughtB)) (by k_caughtB) (fun _ _ _ _ h k => h.keeps k fun _ _ _ h => h.keeps k) (by k_mem) ?_, ?_⟩
  · intro i vi cenv L5 G5 h5 hi hvi e5 hcE F5
    refine T_Comp [("nought", .ref noa)] hA1.hd F5 (compOk_of hcE (by kernel_rfl)) (.inl (by k_mem)) (by k_caught0) ?_
    k_go
    refine ⟨Kept.type, T_range1 fun rv6 G6 h6 hr6 e6 => ?_⟩
    refine ⟨_, _, fun j z Gx => IL Gx z n (fun _ => 0), Turns.loc hcE (Iter.upto hr6 (by k_caughtB)) (by k_caughtB) (fun _ _ _ _ h k => h.keeps k) (by k_mem) ?_, ?_⟩
    · intro j vj cenv2 L7 G7 h7 hj hvj e7 hcE2 F7
      k_go
      exact (((x3.no.keeps e4.sub).keeps e5.sub).keeps e6.sub).keeps e7.sub
    · intro La Ga ha ea hla
      exact hla
  intro La G8 h8 e8 hla
  have F8 := F3.ext e8
  have x8 := x3.keeps e8.sub
  have t8 := t3.ext e8
  k_go
  refine ⟨Kept.ofK (F8.top.k.keeps F8.into) (by kernel_rfl), T.weak (T_C (c413 (d := 10) (g := fun _ _ _ => 0) (hA1.mono (by k_caughtB)) F8.top (My1.ext e8) hla (by k_caughtB) (by k_caughtB) (by k_caughtB) q0 (fun i j x hi hj hx => fact1 n3 k2 r2 hi hj hx) fun G9 h9 e9 => ?_))⟩
  refine T_truthyB ⟨fun h => (nomatch h), fun _ => ?_⟩
  have F9 := F8.ext e9
  have x9 := x8.keeps e9.sub
  have t9 := t8.ext e9
  refine B_nil ?_
  -- sent
  refine hK _ _ (B_consK fun K hK => ?_)
  refine B_Assign_w (by rfl) ?_
  k_go
  refine ⟨Kept.ofK (F9.top.k.keeps F9.into) (by kernel_rfl), T_C (c398 (d := 10) (hA1.mono (by k_caughtB)) F9.top t9 x9.Im x9.Rg (by k_caughtB) x9.m (by k_caughtB) (by k_caughtB) fun sv G10 h10 e10 t10 Ms => ?_)⟩
  have F10 := F9.ext e10 off
  have x10 := x9.keeps e10.sub
  refine B_storeL F10 (bs _).l (by k_all) (by kernel_rfl) fun h11 sb11 F11 => ?_
  have t11 := t10.same sb11 off.loc
  -- noise
  refine hK _ _ (B_consK fun K hK => ?_)
  refine B_Assign_w (by rfl) ?_
  k_go
  refine ⟨Kept.ofK (F11.top.k.keeps F11.into) (by kernel_rfl), T_C (c398 (d := 10) (hA1.mono (by k_caughtB)) F11.top t11 x10.Im x10.Rg (by k_caughtB) x10.e (by k_caughtB) (by k_caughtB) fun nv G12 h12 e12 t12 Mno => ?_)⟩
  have F12 := F11.ext e12 off
  have x12 := x10.keeps e12.sub
  have Ms12 := Ms.ext e12
  refine B_storeL F12 (bs _).l (by k_all) (by kernel_rfl) fun h13 sb13 F13 => ?_
  have t13 := t12.same sb13 off.loc
  -- word
  refine hK _ _ (B_consK fun K hK => ?_)
  refine B_Assign_w (by rfl) ?_
  k_go
  refine T_matMul (d := 10) (hA1.mono (by k_caughtB)) F13 t13 x12.Im x12.Rg q0 (by k_caughtB) (by k_caughtB) Ms12 x12.Mg (by k_caughtB) (by k_caughtB) (by k_caughtB) (fun i j x _ _ _ => sM _ _ _) (fun i j x _ _ _ => sGe _ _ _) fun wv G14 h14 e14 t14 Mw => ?_
  have Mw : Mat G14 mo rg n false wv 1 (k + r) (Wd q n k P M) := Mw
  have F14 := F13.ext e14 off
  have x14 := x12.keeps e14.sub
  refine B_storeL F14 (bs _).l (by k_all) (by kernel_rfl) fun h15 sb15 F15 => ?_
  have t15 := t14.same sb15 off.loc
  -- checks
  refine hK _ _ (B_consK fun K hK => ?_)
  refine B_CompS [("message", mv), ("p", pv)] hA1.hd F15 (compOk_of hE (by kernel_rfl)) (.inl (by k_mem)) (by k_caught0) (bs _).l (by k_all) (by kernel_rfl) (by rw [hE]; rfl) ?_
  k_go
  refine ⟨Kept.type, T_range1 fun rv16 G16 h16 hr16 e16 => ?_⟩
  refine ⟨_, _, fun j y Gx => IL Gx y n (lsum n P (M 0) j k), Turns.loc hE (Iter.upto hr16 (by k_caughtB)) (by k_caughtB) (fun _ _ _ _ h k => h.keeps k) (by k_mem) ?_, ?_⟩
  · intro j vj cenv L5 G5 h5 hj hvj e5 hcE F5
    obtain ⟨tj, rfl⟩ := hvj
    have x5 := (x14.keeps e16.sub).keeps e5.sub
    k_go
    refine T_item x5.m (i := 0) (by simp) (by k_caughtB) (by k_caughtB) fun row hrow => ?_
    k_go
    refine ⟨Kept.ofK (F5.top.k.keeps F5.into) (by kernel_rfl), T_C (c435 (d := 10) (mg := M 0) (hA1.mono (by k_caughtB)) F5.top hrow x5.p (by k_caughtB) (by k_caughtB) (by k_caughtB) (by k_caughtB) hj (by k_caughtB) (by k_caughtB) (fun i x _ _ => sP _ _ _) (fun i x _ _ => sM _ _ _) fun L6 G6 h6 e6 hL6 => ?_)⟩
    exact hL6
  intro cl G17 h17 e17 hcl F17
  have x17 := x14.keeps e17.sub
  have t17 : TG G17 h17 := t15.extW e17 (t15.tb.keep fun P hP o q => e17.keep P o (fun m => off.loc ((List.mem_singleton.mp m) ▸ hP)) q)
  -- the word's numbers
  refine hK _ _ (B_consK fun K hK => B_If_w ?_)
  k_upd; k_upd; k_upd; k_upd; k_upd; k_upd
  refine T_sp1 ?_ (by rfl)
  k_go
  refine T_item x17.m (i := 0) (by simp) (by k_caughtB) (by k_caughtB) fun row hrow => ?_
  k_go
  refine T.weak (T_addLP hrow hcl (by k_caughtB) (by k_caughtB) fun sm G18 h18 e18 hsm => ?_)
  refine T.weak (T_newList (by simp) fun La G19 h19 hla e19 => ?_)
  have e1819 := e18.trans e19
  have F19 := F17.ext e1819
  have x19 := x17.keeps e1819.sub
  have t19 := t17.ext e1819
  have hga : GridAt G19 (.ref La) 1 (k + r) n (fun _ j x => wordS n k P M j x) := ⟨La, _, rfl, hla, rfl, fun i z hz => by
    obtain rfl : i = 0 := by
      have := (List.getElem?_eq_some_iff.mp hz).1
      simp at this; exact this
    simp at hz
    subst hz
    refine hsm.keeps e19.sub fun j z hj hz => ?_
    dsimp only at hz
    have hz' : IL G18 z n (wordS n k P M j) := by
      by_cases hjk : j < k
      · rw [if_pos hjk] at hz
        exact IL.congr (c := M 0 j) (LP.keeps hz e18.sub) fun x _ => by unfold wordS; rw [if_pos hjk]
      · rw [if_neg hjk] at hz
        exact IL.congr (c := lsum n P (M 0) (j - k) k) (LP.keeps hz e18.sub) fun x _ => by unfold wordS; rw [if_neg hjk]
    exact hz'.keeps e19.sub⟩
  k_go
  refine ⟨Kept.ofK (F19.top.k.keeps F19.into) (by kernel_rfl), T.weak (T_C (c413 (d := 10) (hA1.mono (by k_caughtB)) F19.top (((Mw.ext e17).ext e18).ext e19) hga (by k_caughtB) (by k_caughtB) (by k_caughtB) q0 (fun i j x hi hj hx => ?_) fun G20 h20 e20 => ?_))⟩
  · obtain rfl : i = 0 := by omega
    exact fact2 n3 k2 r2 hj hx
  refine T_truthyB ⟨fun h => (nomatch h), fun _ => ?_⟩
  have F20 := F19.ext e20
  have x20 := x19.keeps e20.sub
  have t20 := t19.ext e20
  have s20 := fun b o q => e20.sub b o (e1819.sub b o (e17.sub b o q))
  refine B_nil ?_
  exact hK _ _ (part4 (tq := tq) (tr := tr) (tk := tk) hA1 hE bs off X (F20.weak (by k_caught0) (by k_caught0)) t20 ⟨x20.Im, x20.Rg, x20.no, x20.p, x20.m, x20.e, x20.Mp, (Ms12.ext e14).keeps s20, (Mno.ext e14).keeps s20, Mw.keeps s20, x20.Mh⟩ p)
end
end
section
theorem fillD36 : PySem.Challenge.rw_yi0068_01 = PySem.Challenge.rw_yi0068_01 ∧ hd.heap_39 = hd.heap_39 := by
  k_fill
  exact ⟨rfl, rfl⟩
section
variable {W : List Addr} {prog : Program} {w : World} {A : Around} {G h G1 h1 : Heap} {env : Env} {R : Value → Heap → Heap → Prop} {q : Int} {n k r : Nat} {P M E : Nat → Nat → Nat → Int}
  {tuv ev mv pv : Value} {tq tr tk tn : Tok} {tb : Nat → Bool}
theorem PolyAt.eqs {G : Heap} {rg : Addr} {n : Nat} {v : Value} {a b : Nat → Int} (x : PolyAt G rg n v a) (h : ∀ i, i < n → a i = b i) : PolyAt G rg n v b := let ⟨x, L, e, I, l⟩ := x; ⟨x, L, e, I, IL.congr l h⟩
set_option maxHeartbeats 16000000 in
theorem part2 (hA1 : Rm A 99) (hE : env = lawEnv w h.objs.size) (bs : ∀ W', Bs W' h env) (off : OffW TW env) (X : Nums q n k r P M E)
    (F : Fm w env G1 h1 [("turns", tuv), ("n", .int n tn), ("q", .int q tq)] [("errors", ev), ("message", mv), ("p", pv), ("r", .int r tr), ("k", .int k tk)])
    (t1 : TG G1 h1) (htu : LP G1 tuv 2 (fun i u => u = .bool (tb i))) (hp : GridAt G1 pv k r n P) (hm : GridAt G1 mv 1 k n M) (he : GridAt G1 ev 1 (k + r) n E)
    (p : ∀ G' h', Ext TW G h G' h' → TG G' h' → R (.bool true) G' h') : B TW prog w A G h (execs (List.drop 9 (lawBody w)) env) G1 h1 (fun fl G' h' => R (retV fl) G' h') := by
  obtain ⟨q0, qs, n3, k2, r2, sP, sM, sE⟩ := id X
  unfold lawBody bodyBy
  dsimp only [List.drop]
  -- ring
  refine B_consK fun K hK => ?_
  refine B_Assign (by rfl) ?_
  k_go
  refine ⟨Kept.ofK (F.top.k.keeps F.into) (by kernel_rfl), T_C (c59 (d := 10) (hA1.mono (by k_caughtB)) F.top fun rg G2 h2 e2 hrg => ?_)⟩
  have F2 := F.ext e2
  have t2 := t1.ext e2
  refine B_storeC F2 ((bs _).c _) (by k_all) (by rw [hE]; kernel_rfl) (by kernel_rfl) fun c3 h3 hc3 sb3 F3 => ?_
  have t3 := t2.same sb3 (off.cel hc3)
  -- module
  refine hK _ _ (B_consK fun K hK => ?_)
  refine B_Assign (by rfl) ?_
  k_go
  refine ⟨Kept.ofK (F3.top.k.keeps F3.into) (by kernel_rfl), T_C (c377 (d := 10) (r := rg) (hA1.mono (by k_caughtB)) F3.top fun mo G4 h4 e4 Im => ?_)⟩
  have F4 := F3.ext e4
  have t4 := t3.ext e4
  have rg4 := hrg.ext e4
  refine B_storeL F4 (bs _).l (by k_all) (by kernel_rfl) fun h5 sb5 F5 => ?_
  have t5 := t4.same sb5 off.loc
  have s5 := fun b o q => e4.sub b o (e2.sub b o q)
  -- p_all
  refine hK _ _ (B_consK fun K hK => ?_)
  refine B_Assign_w (by rfl) ?_
  k_go
  refine ⟨Kept.ofK (F5.top.k.keeps F5.into) (by kernel_rfl), T_C (c398 (d := 10) (hA1.mono (by k_caughtB)) F5.top t5 Im rg4 (by k_caughtB) (hp.keeps s5) (by k_caughtB) (by k_caughtB) fun pav G6 h6 e6 t6 Mp => ?_)⟩
  have F6 := F5.ext e6 off
  have Im6 := Im.keeps e6.sub
  have rg6 := rg4.ext e6
  refine B_storeC F6 ((bs _).c _) (by k_all) (by rw [hE]; kernel_rfl) (by kernel_rfl) fun c7 h7 hc7 sb7 F7 => ?_
  have t7 := t6.same sb7 (off.cel hc7)
  -- minus
  refine hK _ _ (B_consK fun K hK => ?_)
  refine B_Assign_w (by rfl) ?_
  k_go
  refine T_matNeg (d := 10) (hA1.mono (by k_caughtB)) F7 t7 Im6 rg6 q0 (by k_caughtB) Mp (by k_caughtB) (by k_caughtB) fun ngv G8 h8 e8 t8 Mn => ?_
  have F8 := F7.ext e8 off
  refine T_T (d := 10) (hA1.mono (by k_caughtB)) F8.top t8 (Im6.keeps e8.sub) Mn (by k_caughtB) (by k_caughtB) fun miv G9 h9 e9 t9 Mm => ?_
  have F9 := F8.ext e9 off
  have Im9 := (Im6.keeps e8.sub).keeps e9.sub
  have rg9 := (rg6.ext e8).ext e9
  have Mp9 := (Mp.ext e8).ext e9
  refine B_storeC F9 ((bs _).c _) (by k_all) (by rw [hE]; kernel_rfl) (by kernel_rfl) fun c10 h10 hc10 sb10 F10 => ?_
  have t10 := t9.same sb10 (off.cel hc10)
  -- g_rows
  refine hK _ _ (B_consK fun K hK => ?_)
  refine B_CompS [("k", .int k tk), ("p_all", pav), ("r", .int r tr), ("ring", .ref rg)] hA1.hd F10 (compOk_of hE (by kernel_rfl)) (.inr (by k_mem)) (by k_caught0) (bs _).l (by k_all) (by kernel_rfl) (by rw [hE]; rfl) ?_
  k_go
  refine ⟨Kept.type, T_range1 fun rv11 G11 h11 hr11 e11 => ?_⟩
  refine ⟨_, _, fun i row Gx => LP Gx row (k + r) (fun j x => PolyAt Gx rg n x (Ge k P i j)), Turns.cel hE (Iter.upto hr11 (by k_caughtB)) (by k_caughtB) (fun _ _ _ _ h k => h.keeps k fun _ _ _ h => h.keeps k) (by k_mem) ?_, ?_⟩
  · intro i vi cenv L12 G12 h12 hi hvi e12 hcE F12
    obtain ⟨ti, rfl⟩ := hvi
    have rg12 := (rg9.ext e11).ext e12
    k_go
    refine ⟨Kept.ofK (F12.top.k.keeps F12.into) (by kernel_rfl), T_C (c430 (d := 10) (hA1.mono (by k_caughtB)) F12.top rg12 (by k_caughtB) (by k_caughtB) (by k_caughtB) fun L13 G13 h13 e13 hu => ?_)⟩
    have F13 := F12.ext e13
    refine T_Comp [("i", .int i ti), ("p_all", pav)] hA1.hd F13 (compOk_of hcE (by kernel_rfl)) (.inl (by k_mem)) (by k_caught0) ?_
    k_go
    refine ⟨Kept.type, T_range1 fun rv14 G14 h14 hr14 e14 => ?_⟩
    refine ⟨_, _, fun j x Gx => PolyAt Gx rg n x (P i j), Turns.loc hcE (Iter.upto hr14 (by k_caughtB)) (by k_caughtB) (fun _ _ _ _ h k => h.keeps k) (by k_mem) ?_, ?_⟩
    · intro j vj cenv2 L15 G15 h15 hj hvj e15 hcE2 F15
      obtain ⟨tj, rfl⟩ := hvj
      k_go
      refine T_sp2 ?_ (by rfl)
      k_go
      refine T_newTuple (by simp) fun tp G16 h16 hv16 e16 => ?_
      have F16 := F15.ext e16
      have M16 := (((((Mp9.ext e11).ext e12).ext e13).ext e14).ext e15).ext e16
      exact T_matGet (d := 10) (hA1.mono (by k_caughtB)) F16 M16 (by k_caughtB) (by k_caughtB) ⟨0, hv16⟩ hi hj fun x h17 e17 hx => hx
    · intro La Ga ha ea hla
      refine T_addLP (hu.keeps ea.sub fun _ _ _ h => h.keeps ea.sub) hla (by k_caughtB) (by k_caughtB) fun L17 G17 h17 e17 hl17 => ?_
      refine hl17.mono fun j x hj hx => ?_
      by_cases hjk : j < k
      · rw [if_pos hjk] at hx
        rw [Ge_lt hjk]
        exact hx.keeps e17.sub
      · rw [if_neg hjk] at hx
        rw [Ge_ge hjk]
        exact hx.keeps e17.sub
  intro gl G18 h18 e18 hgl F18
  have t18 : TG G18 h18 := t10.extW e18 (t10.tb.keep fun P hP o q => e18.keep P o (fun m => off.loc ((List.mem_singleton.mp m) ▸ hP)) q)
  have rg18 := rg9.keeps e18.sub
  have Mm18 := Mm.ext e18
  -- h_rows
  refine hK _ _ (B_consK fun K hK => ?_)
  refine B_CompS [("k", .int k tk), ("minus", miv), ("r", .int r tr), ("ring", .ref rg)] hA1.hd F18 (compOk_of hE (by kernel_rfl)) (.inr (by k_mem)) (by k_caught0) (bs _).l (by k_all) (by kernel_rfl) (by rw [hE]; rfl) ?_
  k_go
  refine ⟨Kept.type, T_range1 fun rv11 G11 h11 hr11 e11 => ?_⟩
  refine ⟨_, _, fun j row Gx => LP Gx row (k + r) (fun i x => PolyAt Gx rg n x (He q k P j i)), Turns.cel hE (Iter.upto hr11 (by k_caughtB)) (by k_caughtB) (fun _ _ _ _ h k => h.keeps k fun _ _ _ h => h.keeps k) (by k_mem) ?_, ?_⟩
  · intro j vj cenv L12 G12 h12 hj hvj e12 hcE F12
    obtain ⟨tj, rfl⟩ := hvj
    have rg12 := (rg18.ext e11).ext e12
    have M12 := (Mm18.ext e11).ext e12
    k_upd
    refine T_Comp [("j", .int j tj), ("minus", miv)] hA1.hd F12 (compOk_of hcE (by kernel_rfl)) (.inl (by k_mem)) (by k_caught0) ?_
    k_go
    refine ⟨Kept.type, T_range1 fun rv14 G14 h14 hr14 e14 => ?_⟩
    refine ⟨_, _, fun i x Gx => PolyAt Gx rg n x (fun y => (-P i j y) % q), Turns.loc hcE (Iter.upto hr14 (by k_caughtB)) (by k_caughtB) (fun _ _ _ _ h k => h.keeps k) (by k_mem) ?_, ?_⟩
    · intro i vi cenv2 L15 G15 h15 hi hvi e15 hcE2 F15
      obtain ⟨ti, rfl⟩ := hvi
      k_go
      refine T_sp2 ?_ (by rfl)
      k_go
      refine T_newTuple (by simp) fun tp G16 h16 hv16 e16 => ?_
      have F16 := F15.ext e16
      have M16 := ((M12.ext e14).ext e15).ext e16
      exact T_matGet (d := 10) (hA1.mono (by k_caughtB)) F16 M16 (by k_caughtB) (by k_caughtB) ⟨0, hv16⟩ hj hi fun x h17 e17 hx => hx
    · intro La Ga ha ea hla
      have Fa := F12.ext ea
      k_go
      refine ⟨Kept.ofK (Fa.top.k.keeps Fa.into) (by kernel_rfl), T_C (c430 (d := 10) (hA1.mono (by k_caughtB)) Fa.top (rg12.ext ea) (by k_caughtB) (by k_caughtB) (by k_caughtB) fun L13 G13 h13 e13 hu => ?_)⟩
      refine T_addLP (hla.keeps e13.sub fun _ _ _ h => h.keeps e13.sub) hu (by k_caughtB) (by k_caughtB) fun L17 G17 h17 e17 hl17 => ?_
      refine hl17.mono fun i x hi hx => ?_
      by_cases hik : i < k
      · rw [if_pos hik] at hx
        rw [He_lt hik]
        exact hx.keeps e17.sub
      · rw [if_neg hik] at hx
        rw [He_ge hik]
        exact hx.keeps e17.sub
  intro hl G19 h19 e19 hhl F19
  have t19 : TG G19 h19 := t18.extW e19 (t18.tb.keep fun P hP o q => e19.keep P o (fun m => off.loc ((List.mem_singleton.mp m) ▸ hP)) q)
  have s19 := fun b o q => e19.sub b o (e18.sub b o q)
  have Im19 := Im9.keeps s19
  have rg19 := rg9.keeps s19
  have s69 := fun b o q => s19 b o (e9.sub b o (e8.sub b o (e6.sub b o (s5 b o q))))
  have htu19 := htu.keeps s69
  -- g_all
  refine hK _ _ (B_consK fun K hK => ?_)
  refine B_Assign_w (by rfl) ?_
  k_go
  refine T_item htu19 (i := 0) (by simp) (by k_caughtB) (by k_caughtB) fun b0 hb0 => ?_
  subst hb0
  refine ⟨Kept.ofK (F19.top.k.keeps F19.into) (by kernel_rfl), T_C (c425 (d := 10) (e := Ge k P) (hA1.mono (by k_caughtB)) F19.top t19 Im19 rg19 (by k_caughtB) (PartsAt.keeps (r := rg) (m := k) (l := k + r) hgl e19.sub) (by k_caughtB) (by k_caughtB) fun gv G20 h20 e20 t20 Mg => ?_)⟩
  have F20 := F19.ext e20 off
  refine B_storeL F20 (bs _).l (by k_all) (by kernel_rfl) fun h21 sb21 F21 => ?_
  have t21 := t20.same sb21 off.loc
  -- h_all
  refine hK _ _ (B_consK fun K hK => ?_)
  refine B_Assign_w (by rfl) ?_
  k_go
  refine T_item (htu19.keeps e20.sub) (i := 1) (by simp) (by k_caughtB) (by k_caughtB) fun b1 hb1 => ?_
  subst hb1
  refine ⟨Kept.ofK (F21.top.k.keeps F21.into) (by kernel_rfl), T_C (c425 (d := 10) (e := He q k P) (hA1.mono (by k_caughtB)) F21.top t21 (Im19.keeps e20.sub) (rg19.ext e20) (by k_caughtB) (PartsAt.keeps (r := rg) (m := r) (l := k + r) hhl e20.sub) (by k_caughtB) (by k_caughtB) fun hv G22 h22 e22 t22 Mh => ?_)⟩
  have F22 := F21.ext e22 off
  refine B_storeL F22 (bs _).l (by k_all) (by kernel_rfl) fun h23 sb23 F23 => ?_
  have t23 := t22.same sb23 off.loc
  -- nought
  refine hK _ _ (B_consK fun K hK => ?_)
  refine B_Assign (by rw [hE]; rfl) ?_
  refine T_Comp [] hA1.hd F23 (compOk_of hE (by kernel_rfl)) (.inl (by k_mem)) (by k_caught0) ?_
  k_go
  refine ⟨Kept.type, T_range1 fun rv24 G24 h24 hr24 e24 => ?_⟩
  refine ⟨_, _, fun j x _ => intIs (fun _ => 0) j x, Turns.loc hE (Iter.upto hr24 (by k_caughtB)) (by k_caughtB) (fun _ _ _ _ h k => h) (by k_mem) ?_, ?_⟩
  · intro j vj cenv L3 G3 h3 hj hvj e3 hcE F3
    k_upd
    exact ⟨_, rfl⟩
  intro no G25 h25 e25 hno
  have F25 := F23.ext e25
  have t25 := t23.ext e25
  refine B_storeC F25 ((bs _).c _) (by k_all) (by rw [hE]; kernel_rfl) (by kernel_rfl) fun c26 h26 hc26 sb26 F26 => ?_
  have t26 := t25.same sb26 (off.cel hc26)
  have s26 := fun b o q => e25.sub b o (e22.sub b o (e20.sub b o q))
  have s26b := fun b o q => s26 b o (s69 b o q)
  exact hK _ _ (part3 (tq := tq) (tr := tr) (tk := tk) hA1 hE bs off X (F26.weak (by k_caught0) (by k_caught0)) t26 ⟨Im19.keeps s26, rg19.keeps s26, hno, hp.keeps s26b, hm.keeps s26b, he.keeps s26b, (Mp9.keeps s19).keeps s26, (Mg.ext e22).ext e25, Mh.ext e25⟩ p)
end
end
section
theorem fillD37 : PySem.Challenge.rw_yi0068_01 = PySem.Challenge.rw_yi0068_01 ∧ hd.heap_39 = hd.heap_39 := by
  k_fill
  exact ⟨rfl, rfl⟩
section
variable {W : List Addr} {prog : Program} {w : World} {A : Around} {G h : Heap} {env : Env} {P : Value → Heap → Heap → Prop} {d N : Nat} {c : Nat → Int} {sc : Addr}
set_option maxHeartbeats 8000000 in
theorem c440 (hA : Rm A 100) (top : TopG w G) (tb : TG G h) (hc : SL G sc N c) (hN : N ≤ 63) (hs : ∀ i, i < N → Builtin.Int.intBits (c i) ≤ 1048576)
    (p : ∀ G' h', Ext TW G h G' h' → TG G' h' → P (.bool true) G' h') : C TW prog w A (.call (.ref 440) ⟨[.ref sc], []⟩) G h P := by
  refine fnL [("script", .ref sc)] hA top fun A1 env h1 hA1 hE F bs e1 => ?_
  have off : OffW TW env := tb.tb.off (bs [])
  have t1 : TG G h1 := tb.ext e1
  -- state
  refine B_consK fun K hK => ?_
  refine B_Assign (by rfl) ?_
  k_upd
  refine T_sp2 ?_ (by rfl)
  k_go
  refine T_newListM (by simp) fun st h2 dst lst e2 => ?_
  have F2 := F.ext e2
  have ne2 := F.ne dst
  have t2 := t1.ext e2
  have stT : st ∉ TW := fun m => by
    obtain ⟨o, q⟩ := t1.live m
    rw [show h1.get? st = none from dst] at q; cases q
  have dst0 : Dead h st := e1.dead dst
  have oS2 : G.get? st = none := off_dead F.into dst
  have offS : OffW [st] env := offW_one ne2
  have hWS : ∀ a ∈ [st], a ∈ TW ∨ Dead h a := fun a ha => .inr ((List.mem_singleton.mp ha) ▸ dst0)
  refine B_storeC F2 ((bs _).c _) (by k_all) (by rw [hE]; kernel_rfl) (by kernel_rfl) fun c3 h3 hc3 sb3 F3 => ?_
  have S3 : StAt h3 st (.ref sc) 0 := ⟨_, lst.imp fun _ q => sb3.extBut _ _ (fun z => ne2 c3 (.inr ⟨_, hc3⟩) z.symm) q⟩
  have t3 := t2.same sb3 (off.cel hc3)
  -- q
  refine hK _ _ (B_consK fun K hK => ?_)
  refine B_AssignB (by rfl) (B_of_TW (W' := [st]) ?_ hWS)
  k_go
  refine ⟨Kept.ofK (F3.top.k.keeps F3.into) (by kernel_rfl), T_C (c388 (d := 10) (hA1.mono (by k_caughtB)) F3.top hc hN (by k_caughtB) S3 oS2 fun tk h4 e4 S4 => ?_)⟩
  have F4 := F3.ext e4 offS
  have t4 := t3.extS e4 stT
  k_go
  refine T_sub fun _ => ?_
  refine ⟨Kept.builtin, T_abs fun _ => ?_⟩
  refine T_add fun tq => ?_
  generalize hq : 2 + (if draw c N 0 - 9 < 0 then -(draw c N 0 - 9) else draw c N 0 - 9) = q
  have hq0 : 0 < q := by rw [← hq]; split <;> omega
  have hqs : Sm q := by
    have h1 : Builtin.Int.intBits (draw c N 0 - 9) ≤ 1048577 := intBits_sub_le (m := 1048576) (n := 1048576) (draw_sm hs 0) (by decide)
    rw [← hq]
    refine Nat.le_trans (intBits_add_le (m := 1048577) (n := 1048577) (by decide) ?_) (by decide)
    split
    · exact intBits_neg_le h1
    · exact h1
  refine B_storeL F4 (bs _).l (by k_all) (by kernel_rfl) fun h5 sb5 F5 => ?_
  have S5 := S4.keep (sb5.extBut _ · (ne2 _ (.inl rfl)).symm)
  have t5 := t4.same sb5 off.loc
  -- n
  refine hK _ _ (B_consK fun K hK => ?_)
  refine B_AssignB (by rfl) (B_of_TW (W' := [st]) ?_ hWS)
  k_go
  refine ⟨Kept.ofK (F5.top.k.keeps F5.into) (by kernel_rfl), T_C (c388 (d := 10) (hA1.mono (by k_caughtB)) F5.top hc hN (by k_caughtB) S5 oS2 fun tk h6 e6 S6 => ?_)⟩
  have F6 := F5.ext e6 offS
  have t6 := t5.extS e6 stT
  k_go
  refine T_mod (by decide) fun _ => ?_
  refine T_add fun tn => ?_
  obtain ⟨n, hn, hn3⟩ : ∃ n : Nat, 1 + draw c N 1 % 3 = (n : Int) ∧ (n = 1 ∨ n = 2 ∨ n = 3) := ⟨(1 + draw c N 1 % 3).toNat, by omega, by omega⟩
  rw [hn]
  refine B_storeL F6 (bs _).l (by k_all) (by kernel_rfl) fun h7 sb7 F7 => ?_
  have S7 := S6.keep (sb7.extBut _ · (ne2 _ (.inl rfl)).symm)
  have t7 := t6.same sb7 off.loc
  -- k
  refine hK _ _ (B_consK fun K hK => ?_)
  refine B_AssignB (by rfl) (B_of_TW (W' := [st]) ?_ hWS)
  k_go
  refine ⟨Kept.ofK (F7.top.k.keeps F7.into) (by kernel_rfl), T_C (c388 (d := 10) (hA1.mono (by k_caughtB)) F7.top hc hN (by k_caughtB) S7 oS2 fun tk h8 e8 S8 => ?_)⟩
  have F8 := F7.ext e8 offS
  have t8 := t7.extS e8 stT
  k_go
  refine T_mod (by decide) fun _ => ?_
  refine T_add fun tk' => ?_
  obtain ⟨k, hk, hk2⟩ : ∃ n : Nat, 1 + draw c N 2 % 2 = (n : Int) ∧ (n = 1 ∨ n = 2) := ⟨(1 + draw c N 2 % 2).toNat, by omega, by omega⟩
  rw [hk]
  refine B_storeC F8 ((bs _).c _) (by k_all) (by rw [hE]; kernel_rfl) (by kernel_rfl) fun c9 h9 hc9 sb9 F9 => ?_
  have S9 := S8.keep (sb9.extBut _ · (ne2 _ (.inr ⟨_, hc9⟩)).symm)
  have t9 := t8.same sb9 (off.cel hc9)
  -- r
  refine hK _ _ (B_consK fun K hK => ?_)
  refine B_AssignB (by rfl) (B_of_TW (W' := [st]) ?_ hWS)
  k_go
  refine ⟨Kept.ofK (F9.top.k.keeps F9.into) (by kernel_rfl), T_C (c388 (d := 10) (hA1.mono (by k_caughtB)) F9.top hc hN (by k_caughtB) S9 oS2 fun tk h10 e10 S10 => ?_)⟩
  have F10 := F9.ext e10 offS
  have t10 := t9.extS e10 stT
  k_go
  refine T_mod (by decide) fun _ => ?_
  refine T_add fun tr' => ?_
  obtain ⟨r, hr, hr2⟩ : ∃ n : Nat, 1 + draw c N 3 % 2 = (n : Int) ∧ (n = 1 ∨ n = 2) := ⟨(1 + draw c N 3 % 2).toNat, by omega, by omega⟩
  rw [hr]
  refine B_storeC F10 ((bs _).c _) (by k_all) (by rw [hE]; kernel_rfl) (by kernel_rfl) fun c11 h11 hc11 sb11 F11 => ?_
  have S11 := S10.keep (sb11.extBut _ · (ne2 _ (.inr ⟨_, hc11⟩)).symm)
  have t11 := t10.same sb11 (off.cel hc11)
  -- turns
  refine hK _ _ (B_consK fun K hK => ?_)
  refine B_AssignComp [("state", .ref st)] [st] hA1.hd F11 (compOk_of hE (by kernel_rfl)) (.inl (by k_mem)) (by k_caught0) (bs _).l (by k_all) (by kernel_rfl) (by rw [hE]; rfl) ?_ offS hWS
  k_go
  refine ⟨Kept.type, T_range1 fun rv G12 h12 hr12 e12 => ?_⟩
  have oS12 : G12.get? st = none := off_ext e12 oS2 S11.live
  refine ⟨2, _, _, fun i u _ => u = .bool (draw c N (4 + i) % 2 == 1), Turns.stt (sv := .ref sc) (f := fun i => 4 + i) hE (Iter.upto (m := 2) hr12 (by k_caughtB)) (by k_caughtB) (S11.keep (e12.keep0 _)) (fun _ _ _ _ h k => h) (by k_mem) ?_, ?_⟩
  · intro i vi cenv L13 G13 h13 hi hvi e13 S13 hcE off13 F13
    k_go
    refine ⟨Kept.ofK (F13.top.k.keeps F13.into) (by kernel_rfl), T_C (c388 (d := 10) (hA1.mono (by k_caughtB)) F13.top (hc.keeps fun b o q => e13.sub b o (e12.sub b o q)) hN (by k_caughtB) S13 (off_ext e13 oS12 (S11.keep (e12.keep0 _)).live) fun tk h14 e14 S14 => ?_)⟩
    k_go
    refine T_mod (by decide) fun _ => ?_
    k_go
    exact T_eqI ⟨rfl, S14⟩
  intro La Ga ha ea hturns F14 S14
  have k14 := ea.sub
  have t14 : TG Ga ha := t11.extW ea (t11.tb.keep fun P hP o q => ea.keep P o (by
    intro m
    rcases List.mem_cons.mp m with rfl | m
    · exact off.loc hP
    · exact stT (List.mem_singleton.mp m ▸ hP)) q)
  have oS14 : Ga.get? st = none := off_ext ea oS2 S11.live
  have hc14 := hc.keeps k14
  have S14 : StAt ha st (.ref sc) 6 := S14
  have hk9 : k ≤ 2 := by omega
  have hr9 : r ≤ 2 := by omega
  have hn9 : n ≤ 3 := by omega
  have krn : k * r * n ≤ 12 := Nat.le_trans (Nat.mul_le_mul (Nat.mul_le_mul hk9 hr9) hn9) (by decide)
  have kn : 1 * k * n ≤ 6 := Nat.le_trans (Nat.mul_le_mul (Nat.mul_le_mul (Nat.le_refl 1) hk9) hn9) (by decide)
  -- p
  refine hK _ _ (B_consK fun K hK => ?_)
  refine B_AssignB (by rfl) (B_of_TW (W' := [st]) ?_ hWS)
  k_go
  refine ⟨Kept.ofK (F14.top.k.keeps F14.into) (by kernel_rfl), T_C (c393 (d := 10) (hA1.mono (by k_caughtB)) F14.top hc14 hN (by k_caughtB) (by k_caughtB) (by k_caughtB) (by k_caughtB) S14 oS14 fun pv G15 h15 e15 S15 hp15 => ?_)⟩
  have F15 := F14.ext e15 offS
  have t15 := t14.extS e15 stT
  have oS15 := off_ext e15 oS14 S14.live
  refine B_storeC F15 ((bs _).c _) (by k_all) (by rw [hE]; kernel_rfl) (by kernel_rfl) fun c16 h16 hc16 sb16 F16 => ?_
  have S16 := S15.keep (sb16.extBut _ · (ne2 _ (.inr ⟨_, hc16⟩)).symm)
  have t16 := t15.same sb16 (off.cel hc16)
  have hc16' := hc14.keeps e15.sub
  -- message
  refine hK _ _ (B_consK fun K hK => ?_)
  refine B_AssignB (by rfl) (B_of_TW (W' := [st]) ?_ hWS)
  k_go
  refine ⟨Kept.ofK (F16.top.k.keeps F16.into) (by kernel_rfl), T_C (c393 (d := 10) (rows := 1) (hA1.mono (by k_caughtB)) F16.top hc16' hN (by k_caughtB) (by k_caughtB) (by k_caughtB) (by k_caughtB) S16 oS15 fun mv G17 h17 e17 S17 hm17 => ?_)⟩
  have F17 := F16.ext e17 offS
  have t17 := t16.extS e17 stT
  have oS17 := off_ext e17 oS15 S16.live
  refine B_storeC F17 ((bs _).c _) (by k_all) (by rw [hE]; kernel_rfl) (by kernel_rfl) fun c18 h18 hc18 sb18 F18 => ?_
  have S18 := S17.keep (sb18.extBut _ · (ne2 _ (.inr ⟨_, hc18⟩)).symm)
  have t18 := t17.same sb18 (off.cel hc18)
  have hc18' := hc16'.keeps e17.sub
  -- errors
  refine hK _ _ (B_consK fun K hK => ?_)
  refine B_AssignB (by rfl) (B_of_TW (W' := [st]) ?_ hWS)
  k_go
  refine T_add fun tkr => ?_
  rw [← Int.natCast_add]
  k_go
  refine ⟨Kept.ofK (F18.top.k.keeps F18.into) (by kernel_rfl), T_C (c393 (d := 10) (rows := 1) (cols := k + r) (hA1.mono (by k_caughtB)) F18.top hc18' hN (by k_caughtB) (by k_caughtB) (by k_caughtB) (by k_caughtB) S18 oS17 fun ev G19 h19 e19 S19 he19 => ?_)⟩
  have F19 := F18.ext e19 offS
  have t19 := t18.extS e19 stT
  refine B_storeC F19 ((bs _).c _) (by k_all) (by rw [hE]; kernel_rfl) (by kernel_rfl) fun c20 h20 hc20 sb20 F20 => ?_
  have t20 := t19.same sb20 (off.cel hc20)
  have k20 : ∀ b o, G.get? b = some o → G19.get? b = some o := fun b o q => e19.sub b o (e17.sub b o (e15.sub b o (k14 b o q)))
  have hp20 := (hp15.keeps e17.sub).keeps e19.sub
  have hm20 := hm17.keeps e19.sub
  have he20 := he19
  have htu20 := (hturns.keeps fun b o q => e19.sub b o (e17.sub b o (e15.sub b o q)))
  generalize hP : (fun i j x => draw c N (6 + (i * r + j) * n + x)) = P' at hp20
  generalize hM : (fun i j x => draw c N (6 + k * r * n + (i * k + j) * n + x)) = M at hm20
  generalize hEE : (fun i j x => draw c N (6 + k * r * n + 1 * k * n + (i * (k + r) + j) * n + x)) = E at he20
  have sP : ∀ i j x, Sm (P' i j x) := fun i j x => by rw [← hP]; exact Nat.le_trans (draw_sm hs _) (by decide)
  have sM : ∀ i j x, Sm (M i j x) := fun i j x => by rw [← hM]; exact Nat.le_trans (draw_sm hs _) (by decide)
  have sE : ∀ i j x, Sm (E i j x) := fun i j x => by rw [← hEE]; exact Nat.le_trans (draw_sm hs _) (by decide)
  clear hp15 hm17 he19
  exact hK _ _ (part2 (tq := tq) (tn := tn) (tr := tr') (tk := tk') (q := q) (n := n) (k := k) (r := r) (P := P') (M := M) (E := E) (tb := fun i => draw c N (4 + i) % 2 == 1) hA1 hE bs off ⟨hq0, hqs, hn3, hk2, hr2, sP, sM, sE⟩ (F20.weak (by k_caught0) (by k_caught0)) t20 htu20 hp20 hm20 he20 p)
end
end
section
theorem fillD38 : PySem.Challenge.rw_yi0068_01 = PySem.Challenge.rw_yi0068_01 ∧ hd.heap_39 = hd.heap_39 := by
  k_fill
  exact ⟨rfl, rfl⟩
def tabs : List (Addr × Addr) := [(322, 320), (366, 362)]
theorem law_at {w : World} : nsIn (KK w) mainGlobals "law" = some (some (.ref 440)) := by unfold KK; k_is
theorem noTabsK {w : World} : noTabs (KK w) = true := by kernel_rfl
theorem hd322 {w : World} {h : Heap} (X : (KK w).In h) : CodeHd h 322 320 := codeHd_of_K X (by kernel_rfl)
theorem hd366 {w : World} {h : Heap} (X : (KK w).In h) : CodeHd h 366 362 := codeHd_of_K X (by kernel_rfl)
theorem the_end {w : World} {prog : Program} {s₁ : Shared} {fa la : Addr} {mg mb : Str → Option Value} {mean' mean : ExcName → Option Value} {vs : List Value} {ns : List Int} {cw : ClaimW} {cl : Str → Option Addr} {args : List WData}
    (KX : (KK w).In s₁.heap) (Y2 : ∀ P ∈ ([320, 362] : List Addr), s₁.heap.get? P = some (tabObj #[])) (T : Top q loose mean' mg mb s₁.heap) (hf : mg "law" = some (.ref fa)) (hg : s₁.gens = #[])
    (hL : s₁.heap.IsList la vs.toArray) (hI : IntsAre vs ns) (hn : ns.length ≤ 63) (hlay : (PyData.list (ns.map PyData.int)).layable0 = true) (hr : ∀ x, cw.raises args x = false) (hp : cw.post args (.bool true) args = true) :
    codeAny (model prog w) callerA (.call (.ref fa) ⟨[.ref la], []⟩) (GoodWG cw cl mean args s₁) s₁ := by
  obtain rfl : fa = 440 := by
    have := mg_of KX T.g law_at
    rw [hf] at this; cases this; rfl
  have hT : TabsAt tabs s₁.heap := fun p hp => by
    simp only [tabs, List.mem_cons, List.not_mem_nil, or_false] at hp
    rcases hp with rfl | rfl
    · exact ⟨hd322 KX, Y2 320 (by simp)⟩
    · exact ⟨hd366 KX, Y2 362 (by simp)⟩
  have hsub : ∀ b o, (ghostOf s₁.heap tabs).get? b = some o → s₁.heap.get? b = some o := fun b o e => of_hideAll _ e
  have hoff : ∀ P ∈ TW, (ghostOf s₁.heap tabs).get? P = none := fun P hP => hideAll_none _ hP
  obtain ⟨bm, ob, a1, a2, a3, a4, r⟩ := T.bmain
  have top : TopG w (ghostOf s₁.heap tabs) := ⟨ghost_K hT KX noTabsK, ⟨mg, mb, ghost_ns hT T.g, ghost_ns hT T.b, (let ⟨mc, a, r⟩ := T.nolimit; ⟨mc, ghost_ns hT a, r⟩), T.builtins, T.free⟩,
    ⟨mg, bm, ob, ghost_ns hT T.g, a1, a2, ghost_get hT a3 (fun q => by rw [q] at a4; cases a4), a4, r.1, r.2⟩⟩
  have tg : TG (ghostOf s₁.heap tabs) s₁.heap := ⟨fun P hP => ⟨#[], Y2 P hP, trivial⟩, hoff⟩
  have hc : SL (ghostOf s₁.heap tabs) la ns.length (fun i => ns.getD i 0) := ⟨vs, ghost_list hT hL, hI.length, intsAre_get hI⟩
  have hs : ∀ i, i < ns.length → Builtin.Int.intBits (ns.getD i 0) ≤ 1048576 := fun i hi => by
    rw [List.getD_eq_getElem?_getD, List.getElem?_eq_getElem hi]
    exact intBits_le_of_item (List.getElem_mem hi) hlay
  have main := c440 (prog := prog) (A := callerA) (P := fun v _ h' => v = .bool true ∧ Tb h') ⟨rfl, by decide, by decide⟩ top tg hc hn hs fun G' h' e t => ⟨rfl, t.tb⟩
  refine CB.run main (s₀ := s₁) rfl rfl (GO.refl _) (Ext.refl hsub) fun v s' G' e g p => ?_
  obtain ⟨rfl, tb⟩ := p
  obtain ⟨gos, n, gg⟩ := g
  refine ⟨.inl ⟨.bool true, .bool true, [], rfl, hr, .bool true, hp, unshared_nil⟩, ⟨fun b o q => ?_, fun b o q => e.live b o q⟩, gos, fun y hy => ?_⟩
  · by_cases hb : b ∈ TW
    · obtain ⟨ps, q2, _⟩ := tb b hb
      have e3 := Y2 b hb
      rw [q] at e3
      cases e3
      refine .inr (.inl ⟨?_, rfl, #[], ps, rfl, by rw [Array.empty_append]; exact q2⟩)
      simp only [TW, List.mem_cons, List.not_mem_nil, or_false] at hb
      rcases hb with rfl | rfl
      · exact ((hd322 KX).tab (Y2 320 (by simp))).isCodeTable
      · exact ((hd366 KX).tab (Y2 362 (by simp))).isCodeTable
    · exact .inl (e.keep b o hb q)
  · rw [gg, hg] at hy
    simp at hy
    rw [hy.2]; rfl
end
end Mine
set_option maxRecDepth 100000 in
set_option maxHeartbeats 8000000 in
theorem PySem.Challenge.cw_yi0068_01_holds : PySem.Challenge.rw_yi0068_01.Holds := by
  refine Mine.hd ?_
  k_fill
  intro w s₀ s₁ mg mb G Y fa o pm cd doc dV kV ho hd hcd hD hmg hg args vals as hpre hlay hrd hwl hlo
  have KX := kIn_of Y.1
  have Y2 := Y.2
  clear Y
  refine Ground.open G ?_
  intro T B D TE TWW
  clear hD hd ho hcd
  wrow_args hpre hlay hrd hwl hlo
  all_goals (first | refine callC_kw (enter_call ?_) | refine enter_call ?_ | refine callC_kw (enter_callW ?_) | refine enter_callW ?_ | w_how)
  rename_i ns _ _ hL1 _ _ _ _ la vs _ hL _ _ _ hI _ hcond _
  have hn : ns.length ≤ 63 := by omega
  exact Mine.the_end KX Y2 T hmg hg hL hI hn hL1 (fun _ => rfl) (by first | rfl | wrow_post)
