import PyProof.Rows.All
import Wide.All
import OpenK.AllK
import Wide.FinOn
import Lean
import PySem.Challenge.RW_ph0043_01
set_option Elab.async false
set_option linter.unusedVariables false
set_option linter.unusedSectionVars false
open PySem PySem.W PyProof.Rows
local macro_rules | `(tactic| walk_at $s:str) => `(tactic| k_extra $s)
local macro_rules | `(tactic| walk_at "m_t6") => `(tactic| (intro l' h' F' N' l1 lA; (try k_lt l1); (try k_sweep)))
local macro_rules | `(tactic| walk_at "m_fz") => `(tactic| (intro x hx; first | ((repeat (first | with_reducible exact hx | refine List.mem_cons_of_mem _ ?_ | refine List.mem_append_right _ ?_)); done) | simp [hx]))
local macro_rules | `(tactic| walk_at "m_tab") => `(tactic| first | k_mem | simp)
section
open PySem PySem.W PyProof.Rows
namespace Mine
set_option maxRecDepth 100000 in
set_option maxHeartbeats 8000000 in
open_top hd for PySem.Challenge.rw_ph0043_01
end Mine

end
section
open PySem PySem.W PyProof.Rows PySem.Calls PySem.Spec
namespace Mine

/-- what is fixed while the law runs; gT: the heap of the top, less the two tables that grow -/
structure P0 where
  w : World
  loose : List Str
  mean : ExcName → Option Value
  mg : Str → Option Value
  mb : Str → Option Value
  gT : Heap
  X : (hd.heap_39 w.params).In gT
  T : Top topProg loose mean mg mb gT
  n44 : gT.get? 44 = none
  n51 : gT.get? 51 = none
  lt : 51 < gT.objs.size

/-- an object that might be a code object -/
def CodeLike (o : Obj) : Prop := ∃ vs q t, o.data = .fields vs ∧ vs[1]? = some (.str q t)

def Tab (spec : List (Pos × Str)) (h : Heap) (ps : Array Value) : Prop :=
  TriplesOk ps.toList ∧ ∀ x ∈ spec, ∀ v, codeAmong x.1 ps.toList = some v → h.CodeRec v x.2
theorem Tab.mono' {spec : List (Pos × Str)} {h h' : Heap} {ps : Array Value} (x : Tab spec h ps)
    (k : ∀ b o, h.get? b = some o → CodeLike o → h'.get? b = some o) : Tab spec h' ps :=
  ⟨x.1, fun y hy v hv => let ⟨c, o, vs, t, a, b, d, e⟩ := x.2 y hy v hv; ⟨c, o, vs, t, a, k _ _ b ⟨vs, _, t, d, e⟩, d, e⟩⟩
theorem Tab.mono {spec : List (Pos × Str)} {h h' : Heap} {ps : Array Value} (x : Tab spec h ps)
    (k : ∀ b o, h.get? b = some o → h'.get? b = some o) : Tab spec h' ps := x.mono' fun b o e _ => k b o e
theorem tab_not_code {spec : List (Pos × Str)} {h : Heap} {ps : Array Value} (x : Tab spec h ps) : ¬ CodeLike (tabObj ps) := by
  rintro ⟨vs, q, t, hd, hv⟩
  cases hd
  have ht := x.1
  rw [← Array.getElem?_toList] at hv
  cases hl : ps.toList with
  | nil => rw [hl] at hv; cases hv
  | cons a r => cases r with
    | nil => rw [hl] at hv; cases hv
    | cons b r =>
      rw [hl] at hv ht
      cases hv
      cases a <;> first | exact ht | (cases r <;> exact ht)

def qHit : Str := "_law_hit.<locals>.<lambda>"
def qSearch : Str := "_law_finder.<locals>._law_search"
def qFind : Str := "_law_finder.<locals>.<lambda>"
def spec44 : List (Pos × Str) := [(⟨62, 10, 62, 22⟩, qHit), (⟨63, 15, 63, 39⟩, qHit)]
def spec51 : List (Pos × Str) := [(⟨67, 4, 73, 19⟩, qSearch), (⟨74, 13, 74, 25⟩, qFind)]

structure Inv (c : P0) (h : Heap) : Prop where
  top : ∀ b o, c.gT.get? b = some o → h.get? b = some o
  size : c.gT.objs.size ≤ h.objs.size
  t44 : ∃ ps, h.get? 44 = some (tabObj ps) ∧ Tab spec44 h ps
  t51 : ∃ ps, h.get? 51 = some (tabObj ps) ∧ Tab spec51 h ps
theorem Inv.X {c : P0} {h : Heap} (I : Inv c h) : (hd.heap_39 c.w.params).In h := c.X.keeps I.top
theorem Inv.T {c : P0} {h : Heap} (I : Inv c h) : Top topProg c.loose c.mean c.mg c.mb h := c.T.keeps I.top

def Ext (h h' : Heap) : Prop := ∀ b o, h.get? b = some o → b ≠ 44 → b ≠ 51 → h'.get? b = some o
theorem Ext.refl (h : Heap) : Ext h h := fun _ _ e _ _ => e
theorem Ext.trans {h₁ h₂ h₃ : Heap} (a : Ext h₁ h₂) (b : Ext h₂ h₃) : Ext h₁ h₃ := fun x o e n1 n2 => b x o (a x o e n1 n2) n1 n2

structure After (c : P0) (s s' : Shared) : Prop where
  ext : Ext s.heap s'.heap
  inv : Inv c s'.heap
  gens : ∀ (i : Nat) (x : GenState), s.gens[i]? = some x → s'.gens[i]? = some x
  bare : AllBare s.gens → AllBare s'.gens
  os : s'.os = s.os
theorem After.refl {c : P0} {s : Shared} (I : Inv c s.heap) : After c s s := ⟨Ext.refl _, I, fun _ _ e => e, fun e => e, rfl⟩
theorem After.trans {c : P0} {s₁ s₂ s₃ : Shared} (a : After c s₁ s₂) (b : After c s₂ s₃) : After c s₁ s₃ :=
  ⟨a.ext.trans b.ext, b.inv, fun i x e => b.gens i x (a.gens i x e), fun e => b.bare (a.bare e), b.os.trans a.os⟩

/-- room on the stack -/
structure Rm (A : Around) (d : Nat) : Prop where
  handled : A.handled = none
  depth : A.depth + d < 1000
  units : A.units + 20 * d < 9900
theorem Rm.lt {A : Around} {d : Nat} (r : Rm A d) : A.depth < recursionLimit := by have := r.depth; show A.depth < 1000; omega
theorem Rm.ul {A : Around} {d : Nat} (r : Rm A d) : A.units < cLine := by have := r.units; show A.units < 9900; omega
theorem Rm.deeper {A : Around} {d : Nat} (r : Rm A (d + 1)) (env : Env) : Rm (A.deeper env) d :=
  ⟨r.handled, by have := r.depth; show A.depth + 1 + d < 1000; omega, by have := r.units; show A.units + 3 + 20 * d < 9900; omega⟩
theorem Rm.le {A : Around} {d d' : Nat} (r : Rm A d) (h : d' ≤ d) : Rm A d' := ⟨r.handled, by have := r.depth; omega, by have := r.units; omega⟩
theorem Rm.in1 {A : Around} {d : Nat} (r : Rm A (d + 1)) : Rm A.in1 d := ⟨r.handled, by have := r.depth; show A.depth + d < 1000; omega, by have := r.units; show A.units + 1 + 20 * d < 9900; omega⟩

/-- the heap less the two tables -/
abbrev gh (h : Heap) : Heap := hideAll h [44, 51]
theorem gh_get {h : Heap} {b : Addr} {o : Obj} (e : h.get? b = some o) (n1 : b ≠ 44) (n2 : b ≠ 51) : (gh h).get? b = some o :=
  hideAll_get _ e (by simp [n1, n2])
theorem of_gh {h : Heap} {b : Addr} {o : Obj} (e : (gh h).get? b = some o) : h.get? b = some o := of_hideAll _ e
theorem gh_44 {h : Heap} : (gh h).get? 44 = none := hideAll_none _ (by simp)
theorem gh_51 {h : Heap} : (gh h).get? 51 = none := hideAll_none _ (by simp)
theorem gh_ne {h : Heap} {b : Addr} {o : Obj} (e : (gh h).get? b = some o) : b ≠ 44 ∧ b ≠ 51 :=
  ⟨(fun q => by rw [q, gh_44] at e; cases e), (fun q => by rw [q, gh_51] at e; cases e)⟩
theorem gh_size {h : Heap} : (gh h).objs.size = h.objs.size := hideAll_size _ _
theorem gh_ns {h : Heap} {a : Addr} {m : Str → Option Value} (x : h.Ns a m) (n1 : a ≠ 44) (n2 : a ≠ 51) : (gh h).Ns a m :=
  let ⟨o, es, ep, e, r⟩ := x; ⟨o, es, ep, gh_get e n1 n2, r⟩

theorem gT_ne {c : P0} {b : Addr} {o : Obj} (e : c.gT.get? b = some o) : b ≠ 44 ∧ b ≠ 51 :=
  ⟨(fun q => by rw [q, c.n44] at e; cases e), (fun q => by rw [q, c.n51] at e; cases e)⟩
theorem gT_gh {c : P0} {h : Heap} (I : Inv c h) : ∀ b o, c.gT.get? b = some o → (gh h).get? b = some o := fun b o e => gh_get (I.top b o e) (gT_ne e).1 (gT_ne e).2
theorem gh_X {c : P0} {h : Heap} (I : Inv c h) : (hd.heap_39 c.w.params).In (gh h) := c.X.keeps (gT_gh I)
theorem gh_T {c : P0} {h : Heap} (I : Inv c h) : Top topProg c.loose c.mean c.mg c.mb (gh h) := c.T.keeps (gT_gh I)

theorem Inv.ext {c : P0} {h h' : Heap} (I : Inv c h) (k : Ext h h') (hz : h.objs.size ≤ h'.objs.size) {p q : Array Value} (h44 : h'.get? 44 = some (tabObj p)) (h51 : h'.get? 51 = some (tabObj q))
    (t44 : Tab spec44 h' p) (t51 : Tab spec51 h' q) : Inv c h' :=
  ⟨fun b o e => k b o (I.top b o e) (gT_ne e).1 (gT_ne e).2, Nat.le_trans I.size hz, ⟨p, h44, t44⟩, ⟨q, h51, t51⟩⟩

/-- the heap of an activation: the base g, the frame L -/
structure Fn (c : P0) (h : Heap) (g : Heap) (L : Addr) : Prop where
  top : ∀ b o, c.gT.get? b = some o → g.get? b = some o
  old : ∀ b o, h.get? b = some o → b ≠ 44 → b ≠ 51 → g.get? b = some o
  sub : ∀ b o, g.get? b = some o → h.get? b = some o
  n44 : g.get? 44 = none
  n51 : g.get? 51 = none
  le : h.objs.size ≤ L
  tl : c.gT.objs.size ≤ L
theorem Fn.X {c : P0} {h g : Heap} {L : Addr} (Z : Fn c h g L) : (hd.heap_39 c.w.params).In g := c.X.keeps Z.top
theorem Fn.T {c : P0} {h g : Heap} {L : Addr} (Z : Fn c h g L) : Top topProg c.loose c.mean c.mg c.mb g := c.T.keeps Z.top
theorem Fn.l44 {c : P0} {h g : Heap} {L : Addr} (Z : Fn c h g L) : L ≠ 44 := Nat.ne_of_gt (Nat.lt_of_lt_of_le (Nat.lt_trans (by decide : 44 < 51) c.lt) Z.tl)
theorem Fn.l51 {c : P0} {h g : Heap} {L : Addr} (Z : Fn c h g L) : L ≠ 51 := Nat.ne_of_gt (Nat.lt_of_lt_of_le c.lt Z.tl)

/-- what stays as it is from heap h on, as long as the frame and the ledger fz are told -/
def Froz (g : Heap) (L : Addr) (own : List (Addr × Obj)) (h : Heap) (fz : List (Addr × Obj)) : Prop :=
  (∀ x ∈ fz, x.1 ≠ 44 ∧ x.1 ≠ 51 ∧ ∀ y ∈ own, x.1 ≠ y.1) ∧
  ∀ h'' m'', Fr g L h'' m'' → News g L h'' fz → ∀ b o, h.get? b = some o → b ≠ L → b ≠ 44 → b ≠ 51 → (∀ y ∈ own, b ≠ y.1) → h''.get? b = some o

open Classical in
noncomputable def dump (g : Heap) (L : Addr) (own : List (Addr × Obj)) (h : Heap) : List (Addr × Obj) :=
  (List.range h.objs.size).filterMap fun a => if a = L ∨ a = 44 ∨ a = 51 ∨ (∃ y ∈ own, a = y.1) ∨ g.get? a ≠ none then none else (h.get? a).map fun o => (a, o)
theorem mem_dump {g : Heap} {L : Addr} {own : List (Addr × Obj)} {h : Heap} {x : Addr × Obj} : x ∈ dump g L own h ↔ h.get? x.1 = some x.2 ∧ x.1 ≠ L ∧ x.1 ≠ 44 ∧ x.1 ≠ 51 ∧ (∀ y ∈ own, x.1 ≠ y.1) ∧ g.get? x.1 = none := by
  unfold dump
  rw [List.mem_filterMap]
  constructor
  · rintro ⟨a, _, e⟩
    split at e
    · cases e
    · rename_i hn
      cases q : h.get? a with
      | none => rw [q] at e; cases e
      | some o =>
        rw [q] at e; cases e
        refine ⟨q, fun z => hn (.inl z), fun z => hn (.inr (.inl z)), fun z => hn (.inr (.inr (.inl z))), fun y hy z => hn (.inr (.inr (.inr (.inl ⟨y, hy, z⟩)))), ?_⟩
        exact Classical.byContradiction fun z => hn (.inr (.inr (.inr (.inr z))))
  · rintro ⟨h1, h2, h3, h4, h5, h6⟩
    refine ⟨x.1, List.mem_range.mpr (Heap.lt_size h1), ?_⟩
    rw [if_neg, h1]
    · rfl
    · rintro (z | z | z | ⟨y, hy, z⟩ | z)
      · exact h2 z
      · exact h3 z
      · exact h4 z
      · exact h5 y hy z
      · exact z h6

theorem freeze {g : Heap} {L : Addr} {h : Heap} {m : Str → Option Value} {own : List (Addr × Obj)} {p q : Obj} (F : Fr g L h m) (N : News g L h (own ++ [(44, p), (51, q)])) :
    ∃ fz, News g L h (own ++ (44, p) :: (51, q) :: fz) ∧ Froz g L own h fz := by
  refine ⟨dump g L own h, fun x hx => ?_, fun x hx => ?_, fun h'' m'' F'' N'' b o e h1 h2 h3 h4 => ?_⟩
  · rcases List.mem_append.mp hx with hx | hx
    · exact N x (List.mem_append_left _ hx)
    · rcases List.mem_cons.mp hx with rfl | hx
      · exact N _ (List.mem_append_right _ (by simp))
      · rcases List.mem_cons.mp hx with rfl | hx
        · exact N _ (List.mem_append_right _ (by simp))
        · have z := mem_dump.mp hx
          exact ⟨z.1, z.2.1, z.2.2.2.2.2⟩
  · have z := mem_dump.mp hx
    exact ⟨z.2.2.1, z.2.2.2.1, z.2.2.2.2.1⟩
  · cases hg : g.get? b with
    | some o' =>
      have := F.keep b o' hg
      rw [e] at this; cases this
      exact F''.keep b o hg
    | none => exact (N'' (b, o) (mem_dump.mpr ⟨e, h1, h2, h3, h4, hg⟩)).1

end Mine

end
section
open PySem PySem.W PyProof.Rows PySem.Calls PySem.Spec
namespace Mine

abbrev MM (c : P0) : Model := model PySem.Challenge.rw_ph0043_01.prog c.w

/-- a point of a walk: what is frozen, and the tables -/
structure Pt (g : Heap) (L : Addr) (own : List (Addr × Obj)) (h : Heap) (p q : Array Value) (fz : List (Addr × Obj)) : Prop where
  froz : Froz g L own h fz
  t44 : Tab spec44 h p
  t51 : Tab spec51 h q
  code : ∀ b o, h.get? b = some o → CodeLike o → b ≠ L ∧ b ≠ 44 ∧ b ≠ 51 ∧ ∀ y ∈ own, b ≠ y.1
  a44 : h.get? 44 = some (tabObj p)
  a51 : h.get? 51 = some (tabObj q)

theorem Fn.start {c : P0} {h : Heap} (I : Inv c h) : Fn c h (gh h) h.objs.size :=
  ⟨gT_gh I, fun b o e n1 n2 => gh_get e n1 n2, fun b o e => of_gh e, gh_44, gh_51, Nat.le_refl _, I.size⟩

section
variable {c : P0} {h₀ g : Heap} {L : Addr}

theorem inv_fr {h : Heap} {m : Str → Option Value} (Z : Fn c h₀ g L) (F : Fr g L h m) {p q : Array Value} (h44 : h.get? 44 = some (tabObj p)) (h51 : h.get? 51 = some (tabObj q)) (t44 : Tab spec44 h p) (t51 : Tab spec51 h q) : Inv c h :=
  ⟨fun b o e => F.keep b o (Z.top b o e), Nat.le_trans Z.tl (Nat.le_of_lt F.ns.lt), ⟨p, h44, t44⟩, ⟨q, h51, t51⟩⟩

theorem renew {h : Heap} {m : Str → Option Value} {own : List (Addr × Obj)} (Z : Fn c h₀ g L) (F : Fr g L h m) (N : News g L h own)
    (ho : ∀ x ∈ own, x.1 ≠ 44 ∧ x.1 ≠ 51 ∧ ¬ CodeLike x.2) (I : Inv c h) :
    ∃ p q fz, News g L h (own ++ (44, tabObj p) :: (51, tabObj q) :: fz) ∧ Pt g L own h p q fz := by
  obtain ⟨p, hp, tp⟩ := I.t44
  obtain ⟨q, hq, tq⟩ := I.t51
  have N' : News g L h (own ++ [(44, tabObj p), (51, tabObj q)]) := fun x hx => by
    rcases List.mem_append.mp hx with hx | hx
    · exact N x hx
    · rcases List.mem_cons.mp hx with rfl | hx
      · exact ⟨hp, Ne.symm Z.l44, Z.n44⟩
      · rcases List.mem_cons.mp hx with rfl | hx
        · exact ⟨hq, Ne.symm Z.l51, Z.n51⟩
        · cases hx
  obtain ⟨fz, Nf, Zf⟩ := freeze F N'
  refine ⟨p, q, fz, Nf, Zf, tp, tq, fun b o e hc => ⟨fun z => ?_, fun z => ?_, fun z => ?_, fun y hy z => ?_⟩, hp, hq⟩
  · obtain ⟨oL, es, ep, eL, hdL, _⟩ := F.ns
    obtain ⟨vs, _, _, hv, _⟩ := hc
    rw [z, eL] at e; cases e; rw [hdL] at hv; cases hv
  · rw [z, hp] at e; cases e; exact tab_not_code tp hc
  · rw [z, hq] at e; cases e; exact tab_not_code tq hc
  · have := (N y hy).1
    rw [← z, e] at this; cases this
    exact (ho y hy).2.2 hc

theorem fr_after {s₁ s₂ : Shared} {m : Str → Option Value} (Z : Fn c h₀ g L) (F : Fr g L s₁.heap m) (a : After c s₁ s₂) : Fr g L s₂.heap m := by
  obtain ⟨oL, es, ep, eL, r⟩ := F.ns
  refine ⟨⟨oL, es, ep, a.ext _ _ eL Z.l44 Z.l51, r⟩, fun b o e => a.ext b o (F.keep b o e) ?_ ?_, F.above⟩
  · intro z; rw [z, Z.n44] at e; cases e
  · intro z; rw [z, Z.n51] at e; cases e

theorem after_step {s₁ s₂ : Shared} {m : Str → Option Value} {news : List (Addr × Obj)} (own : List (Addr × Obj)) (Z : Fn c h₀ g L) (F : Fr g L s₁.heap m) (N : News g L s₁.heap news)
    (ho : ∀ x ∈ own, x ∈ news ∧ x.1 ≠ 44 ∧ x.1 ≠ 51 ∧ ¬ CodeLike x.2) (a : After c s₁ s₂) :
    Fr g L s₂.heap m ∧ ∃ p q fz, News g L s₂.heap (own ++ (44, tabObj p) :: (51, tabObj q) :: fz) ∧ Pt g L own s₂.heap p q fz := by
  have F' := fr_after Z F a
  refine ⟨F', renew Z F' (fun x hx => ?_) (fun x hx => (ho x hx).2) a.inv⟩
  have n := N x (ho x hx).1
  exact ⟨a.ext _ _ n.1 (ho x hx).2.1 (ho x hx).2.2.1, n.2⟩

/-- what a walk keeps -/
theorem Pt.kept {own news : List (Addr × Obj)} {h h'' : Heap} {m'' : Str → Option Value} {p q : Array Value} {fz : List (Addr × Obj)} (P : Pt g L own h p q fz) (F : Fr g L h'' m'') (N : News g L h'' news) (hs : ∀ x ∈ fz, x ∈ news) :
    ∀ b o, h.get? b = some o → b ≠ L → b ≠ 44 → b ≠ 51 → (∀ y ∈ own, b ≠ y.1) → h''.get? b = some o :=
  P.froz.2 h'' m'' F fun x hx => N x (hs x hx)
theorem Pt.inv {own news : List (Addr × Obj)} {h h'' : Heap} {m'' : Str → Option Value} {p q : Array Value} {fz : List (Addr × Obj)} (Z : Fn c h₀ g L) (P : Pt g L own h p q fz) (F : Fr g L h'' m'') (N : News g L h'' news) (hs : ∀ x ∈ fz, x ∈ news)
    (h44 : (44, tabObj p) ∈ news) (h51 : (51, tabObj q) ∈ news) : Inv c h'' :=
  have k := P.kept F N hs
  have kc : ∀ b o, h.get? b = some o → CodeLike o → h''.get? b = some o := fun b o e hc =>
    have z := P.code b o e hc; k b o e z.1 z.2.1 z.2.2.1 z.2.2.2
  inv_fr Z F (N _ h44).1 (N _ h51).1 (P.t44.mono' kc) (P.t51.mono' kc)

theorem Pt.keptAll {own news : List (Addr × Obj)} {h h'' : Heap} {m'' : Str → Option Value} {p q : Array Value} {fz : List (Addr × Obj)} (P : Pt g L own h p q fz) (F : Fr g L h'' m'') (N : News g L h'' news) (hs : ∀ x ∈ fz, x ∈ news)
    (h44 : (44, tabObj p) ∈ news) (h51 : (51, tabObj q) ∈ news) : ∀ b o, h.get? b = some o → b ≠ L → (∀ y ∈ own, b ≠ y.1) → h''.get? b = some o := fun b o e h1 h2 => by
  by_cases n1 : b = 44
  · subst n1; rw [P.a44] at e; cases e; exact (N _ h44).1
  · by_cases n2 : b = 51
    · subst n2; rw [P.a51] at e; cases e; exact (N _ h51).1
    · exact P.kept F N hs b o e h1 n1 n2 h2

theorem fin {s s' : Shared} {m : Str → Option Value} (Z : Fn c s.heap g L) (F : Fr g L s'.heap m) (I : Inv c s'.heap) (hg : ∀ (i : Nat) (x : GenState), s.gens[i]? = some x → s'.gens[i]? = some x) (hb : AllBare s.gens → AllBare s'.gens) (ho : s'.os = s.os) : After c s s' :=
  ⟨fun b o e n1 n2 => F.keep b o (Z.old b o e n1 n2), I, hg, hb, ho⟩
theorem fin0 {s : Shared} {h' : Heap} {tk : Nat} {m : Str → Option Value} (Z : Fn c s.heap g L) (F : Fr g L h' m) (I : Inv c h') : After c s { s with heap := h', toks := tk } :=
  fin (s' := { s with heap := h', toks := tk }) Z F I (fun _ _ e => e) (fun e => e) rfl
end

theorem Inv.but {c : P0} {h h' : Heap} (I : Inv c h) (S : Addr → Prop) (k : ∀ b o, h.get? b = some o → ¬ S b → h'.get? b = some o) (hS : ∀ b, S b → c.gT.objs.size ≤ b)
    (hc : ∀ b o, S b → h.get? b = some o → CodeLike o → False) (hz : c.gT.objs.size ≤ h'.objs.size) : Inv c h' := by
  obtain ⟨p, hp, tp⟩ := I.t44
  obtain ⟨q, hq, tq⟩ := I.t51
  have kc : ∀ b o, h.get? b = some o → CodeLike o → h'.get? b = some o := fun b o e h1 => k b o e fun hs => hc b o hs e h1
  refine ⟨fun b o e => k b o (I.top b o e) fun hs => ?_, hz, ⟨p, k _ _ hp fun hs => ?_, tp.mono' kc⟩, ⟨q, k _ _ hq fun hs => ?_, tq.mono' kc⟩⟩
  · exact absurd (Heap.lt_size e) (Nat.not_lt.mpr (hS b hs))
  · exact absurd (Nat.lt_trans (by decide : 44 < 51) c.lt) (Nat.not_lt.mpr (hS _ hs))
  · exact absurd c.lt (Nat.not_lt.mpr (hS _ hs))
theorem Inv.keeps {c : P0} {h h' : Heap} (I : Inv c h) (k : ∀ b o, h.get? b = some o → h'.get? b = some o) (hz : c.gT.objs.size ≤ h'.objs.size) : Inv c h' :=
  I.but (fun _ => False) (fun b o e _ => k b o e) (fun _ hs => hs.elim) (fun _ _ hs => hs.elim) hz

theorem ns_as {h : Heap} {L : Addr} {m : Str → Option Value} {k : Str} {v : Value} (hn : h.Ns L m) (hk : m k = some v) : h.Ns L (fun y => if y = k then some v else m y) := by
  have e : m = fun y => if y = k then some v else m y := funext fun y => by
    by_cases q : y = k
    · subst q; rw [if_pos rfl]; exact hk
    · rw [if_neg q]
  rw [← e]; exact hn

/-- a call that comes back -/
def Calls (c : P0) (A : Around) (f : Value) (args : List Value) (s : Shared) (Post : Value → Shared → Prop) : Prop :=
  ∀ R : Result → Shared → Prop, (∀ v s', After c s s' → Post v s' → R (.ok (.ret v)) s') → codeAny (MM c) A (.call f ⟨args, []⟩) R s
theorem Calls.use {c : P0} {A : Around} {f : Value} {args : List Value} {s : Shared} {Post : Value → Shared → Prop} {Q : Value → Shared → Prop} {E : Value → Shared → Prop} (C : Calls c A f args s Post)
    (h : ∀ v s', After c s s' → Post v s' → Q v s') : wpAny (MM c) A (call f args) Q E s := wpAny_call (C _ h)

theorem enterM {c : P0} {A : Around} {s : Shared}
    {R : Result → Shared → Prop} {name qual : Str} {params : Arguments} {body : List Stmt} {scope : Scope} {dV kV doc pm cdv ct oc : Value} {an od : Option Addr} {osl : Array (Option Value)} {f : Addr} {args : Args} {binds : List (Str × Value)}
    (I : Inv c s.heap)
    (ho : (hd.heap_39 c.w.params).lookup f = some ⟨oc, od, .func (fnOf name qual params body scope dV kV doc pm an cdv ct), osl⟩) (hcd : codeIn (hd.heap_39 c.w.params) cdv qual = true) (hroom : A.depth < recursionLimit)
    (hbind : BindsTo s (fnOf name qual params body scope dV kV doc pm an cdv ct) args binds) (hloc : ∀ y ∈ binds, scope.names.lookup y.1 = some .local)
    (h : ∀ g L h₁ p q fz AA, (∀ d, Rm A (d + 1) → Rm AA d) → Fn c s.heap g L → Fr g L h₁ (fun y => binds.reverse.lookup y) → News g L h₁ ((44, tabObj p) :: (51, tabObj q) :: fz) → Pt g L [] h₁ p q fz → Ext s.heap h₁ →
      (hd.heap_39 c.w.params).In g → Top topProg c.loose c.mean c.mg c.mb g →
      wpAny (MM c) AA (execs body (envOf qual scope L f cdv))
        (fun fl s' => R (.ok (.ret (match fl with | .ret v => v | _ => .none))) s') (fun _ _ => False)
        { s with heap := h₁, toks := s.toks + binds.length })
    (hco : scope.isCoroutine = false) (hgen : scope.isGenerator = false) (hk : scope.kind = .function)
    (hcell : ∀ x ∈ scope.names, x.2 ≠ .cell) : codeAny (MM c) A (.call (.ref f) args) R s := by
  refine codeAny_call_def (fd := fnOf name qual params body scope dV kV doc pm an cdv ct) (body := body) (binds := binds) hroom (I.X _ _ ho) rfl I.T.nolimit (codeRec_of I.X hcd) rfl hbind hcell hloc
    (fun h₁ hns hk₁ => ?_) hco hgen hk
  have Z := Fn.start I
  have F : Fr (gh s.heap) s.heap.objs.size h₁ (fun y => binds.reverse.lookup y) := ⟨hns, fun b o e => hk₁ b o (of_gh e), Nat.le_of_eq gh_size⟩
  have I₁ : Inv c h₁ := by
    obtain ⟨p, hp, tp⟩ := I.t44
    obtain ⟨q, hq, tq⟩ := I.t51
    exact inv_fr Z F (hk₁ _ _ hp) (hk₁ _ _ hq) (tp.mono hk₁) (tq.mono hk₁)
  obtain ⟨p, q, fz, N, P⟩ := renew Z F (own := []) News.nil (fun _ hx => by cases hx) I₁
  exact wpAny_mono (h _ _ h₁ p q fz _ (fun _ r => r.deeper _) Z F N P (fun b o e _ _ => hk₁ b o e) Z.X Z.T) (fun _ _ x => x) (fun _ _ x => x.elim)

end Mine

end
section
open PySem PySem.W PyProof.Rows PySem.Calls PySem.Spec
namespace Mine
theorem fillC1 : ∀ (w : World) (h : Heap), (hd.heap_39 w.params).In h → model PySem.Challenge.rw_ph0043_01.prog w = model PySem.Challenge.rw_ph0043_01.prog w := by
  k_fill
  intro w h _; rfl

theorem no_quote {x : Str} (hx : ∀ y ∈ x.cps.toList, y ≠ 34) : (Builtin.Str.occurrences x (Str.ofString "\"") 0 x.length 1).isEmpty = true := by
  have e : Str.ofString "\"" = ⟨#[34]⟩ := by decide +kernel
  have := StrLaws.found_one x 34
  rw [← e, decide_eq_false (fun h => hx 34 h rfl)] at this
  simpa using this

set_option maxRecDepth 100000 in
set_option maxHeartbeats 2000000 in
theorem strip_spec : ∀ (c : P0) (A : Around) (s : Shared) (x : Str) (tk : Tok), Inv c s.heap → Rm A 1 → (∀ y ∈ x.cps.toList, y ≠ 34) → Calls c A (.ref 28) [.str x tk] s (fun v _ => v = .str x tk) := by
  k_with_none
  k_with "m_inv" => exact Pt.inv (by assumption) (by assumption) (by k_asm) (by k_asm) (by walk_at "m_fz") (by walk_at "m_tab") (by walk_at "m_tab")
  intro c A s x tk I hA hx R hR
  refine' enterM (binds := [(Str.ofString "addr", .str x tk)]) I ?k1 ?k2 ?k3 ?k4 ?k5 ?_ ?c2 ?c3 ?c4 ?c5
  case k1 => k_is
  case k2 => k_is
  case k3 => exact hA.lt
  case k4 => exact BindsTo.of_eq rfl
  case k5 => exact locs rfl
  case c2 => exact rfl
  case c3 => exact rfl
  case c4 => exact rfl
  case c5 => decide
  intro g L h₁ p q fz AA hAA Z F N P ext X T
  have hq := no_quote hx
  show wpAny _ _ _ _ _ _
  k_fold
  k_steps
  exact hR _ _ (fin0 Z (by k_asm) (by walk_at "m_inv")) rfl
end Mine

end
section
open PySem PySem.W PyProof.Rows PySem.Calls PySem.Spec
namespace Mine
section
variable {M : Model} {A : Around} {R : GenEnd} {Y : Protocol} {n : Nat} {s₀ : Shared} {c : Code} {fs : List Frame} {s : Shared} {env : Env}
  {K : Flow → Sem Fin} {H : Value → Sem Fin} {gd : Bool → Bool} {lv : List Value → List Value}

theorem seg_wrap0 {α : Type} {m : Sem α} {K : α → Sem Fin} {H : Value → Sem Fin} {gd : Bool → Bool} {lv : List Value → List Value}
    (h : wpAny M (A.over c fs) m (fun a s' => Seg M A R Y n s₀ c (K a) fs s') (fun _ _ => False) s) : Seg M A R Y n s₀ c (m.wrap K H gd lv) fs s :=
  seg_wrap (wpAny_mono h (fun _ _ x => x) fun _ _ x => x.elim)

theorem seg_stmt {st : Stmt} {rest : List Stmt}
    (h : wpAny M (A.over c fs) (exec st env) (fun f s' => f = .next ∧ Seg M A R Y n s₀ c ((execs rest env).wrap K H gd lv) fs s') (fun _ _ => False) s) :
    Seg M A R Y n s₀ c ((execs (st :: rest) env).wrap K H gd lv) fs s := by
  refine seg_execs_cons (seg_wrap0 (wpAny_mono h (fun f s' x => ?_) fun _ _ x => x))
  obtain ⟨rfl, x⟩ := x
  exact x

theorem seg_If {test : Expr} {body orelse : List Stmt} {pos : Pos}
    (h : wpAny M (A.over c fs) (isTrue test env (eval test env)) (fun b s' => if b = true then Seg M A R Y n s₀ c ((execs body env).wrap K H gd lv) fs s' else Seg M A R Y n s₀ c ((execs orelse env).wrap K H gd lv) fs s') (fun _ _ => False) s) :
    Seg M A R Y n s₀ c ((exec (.If test body orelse pos) env).wrap K H gd lv) fs s := by
  rw [arm_exec_If]
  refine seg_at ?_
  show Seg M A R Y n s₀ c ((isTrue test env (eval test env) >>= fun b => if b = true then execs body env else execs orelse env).wrap K H gd lv) fs s
  rw [Sem.bind_eq_wrap', Sem.wrap_wrap]
  refine seg_wrap0 (wpAny_mono h (fun b s' x => ?_) fun _ _ x => x)
  cases b with
  | true => exact x
  | false => exact x

abbrev backK (env : Env) (K : Flow → Sem Fin) (H : Value → Sem Fin) (gd : Bool → Bool) (lv : List Value → List Value) : Result → Sem Fin := fun r => ((match r with | .ok f => (.pure f : Sem Flow) | .error e => .raise e).onRaise fun (x : Value) => do
        if (← field x 1) == Value.none then unsupported "frame.own-activation:exception-without-traceback"
        setFlight x env.frame).wrap K H gd lv

theorem seg_For {target iter : Expr} {body orelse : List Stmt} {pos : Pos} (hs : ∀ x, foldedSetIterable iter env x = pure x)
    (h : wpAny M (A.over c fs) (eval iter env) (fun x s₁ => wpAny M (A.over c fs) (pyIter x) (fun it s₂ => ∀ p, Seg M A R Y n s₀ (.forLoop target it body orelse env) (M.den (.forLoop target it body orelse env))
      (.ret (backK env K H gd lv) none (gd false) (lv []) c p [] :: fs) s₂) (fun _ _ => False) s₁) (fun _ _ => False) s) :
    Seg M A R Y n s₀ c ((exec (.For target iter body orelse pos) env).wrap K H gd lv) fs s := by
  rw [exec_For]
  refine seg_at ?_
  show Seg M A R Y n s₀ c ((eval iter env >>= fun y => (foldedSetIterable iter env y >>= fun x => standAt iter.pos >>= fun _ => holding [x] (pyIter x) >>= fun it => runOwn (.forLoop target it body orelse env) env)).wrap K H gd lv) fs s
  rw [Sem.bind_eq_wrap', Sem.wrap_wrap]
  refine seg_wrap0 (wpAny_mono h (fun x s₁ h₁ => ?_) fun _ _ x => x)
  rw [hs x]
  refine seg_at ?_
  show Seg M A R Y n s₀ c ((holding [x] (pyIter x) >>= fun it => runOwn (.forLoop target it body orelse env) env).wrap K H gd lv) fs s₁
  rw [Sem.bind_eq_wrap', Sem.wrap_wrap]
  refine seg_wrap0 (wpAny_holding (wpAny_mono h₁ (fun it s₂ h₂ => ?_) fun _ _ x => x))
  exact seg_call h₂
end

section
variable {prog : Program} {w : World} {A : Around} {R : GenEnd} {Y : Protocol} {n : Nat} {s₀ : Shared} {fs : List Frame} {s : Shared} {env : Env}

theorem seg_forLoop {target : Expr} {it : Value} {body orelse : List Stmt}
    (h : wpAny (model prog w) (A.over (.forLoop target it body orelse env) fs) (pyNext it) (fun r s₁ => match r with
      | none => Seg (model prog w) A R Y n s₀ (.forLoop target it body orelse env) (.pure (.again (.block orelse env))) fs s₁
      | some v => wpAny (model prog w) (A.over (.forLoop target it body orelse env) fs) (letOwnedTupleGo target it v) (fun _ s₂ =>
          wpAny (model prog w) (A.over (.forLoop target it body orelse env) fs) (assign target env v) (fun _ s₃ =>
            Seg (model prog w) A R Y n s₀ (.forLoop target it body orelse env) ((execs body env).wrap (fun f => match f with
            | .next | .cont => .pure (.again (.forLoop target it body orelse env))
            | .brk => .pure (.done .next)
            | .ret v => .pure (.done (.ret v))) (fun e => (do noteFrame e env; theTreesLotGoes e : Sem Unit).wrap (fun _ => .raise e) .raise id id) id id) fs s₃) (fun _ _ => False) s₂) (fun _ _ => False) s₁) (fun _ _ => False) s) :
    Seg (model prog w) A R Y n s₀ (.forLoop target it body orelse env) ((model prog w).den (.forLoop target it body orelse env)) fs s := by
  show Seg _ A R Y n s₀ _ ((forTurn target it body orelse env).onRaise (fun x => do noteFrame x env; theTreesLotGoes x)) fs s
  unfold forTurn
  rw [Sem.onRaise_eq_wrap]
  refine seg_at ?_
  show Seg _ A R Y n s₀ _ ((((pyNext it).onRaise (fun _ => standAt { target.pos with line := 0 })) >>= fun r => _).wrap _ _ _ _) fs s
  rw [Sem.bind_eq_wrap', Sem.wrap_wrap]
  refine seg_wrap0 (wpAny_onRaise (wpAny_mono h (fun r s₁ h₁ => ?_) fun _ _ x => x.elim))
  cases r with
  | none => exact h₁
  | some v =>
    show Seg _ A R Y n s₀ _ ((letOwnedTupleGo target it v >>= fun _ => assign target env v >>= fun _ => execs body env >>= _).wrap _ _ _ _) fs s₁
    rw [Sem.bind_eq_wrap', Sem.wrap_wrap]
    refine seg_wrap0 (wpAny_mono h₁ (fun _ s₂ h₂ => ?_) fun _ _ x => x)
    show Seg _ A R Y n s₀ _ ((assign target env v >>= fun _ => execs body env >>= _).wrap _ _ _ _) fs s₂
    rw [Sem.bind_eq_wrap', Sem.wrap_wrap]
    refine seg_wrap0 (wpAny_mono h₂ (fun _ s₃ h₃ => ?_) fun _ _ x => x)
    show Seg _ A R Y n s₀ _ ((execs body env >>= _).wrap _ _ _ _) fs s₃
    rw [Sem.bind_eq_wrap', Sem.wrap_wrap]
    rw [Sem.wrap_congr (execs body env) _ _ (K' := fun f => match f with
            | .next | .cont => .pure (.again (.forLoop target it body orelse env))
            | .brk => .pure (.done .next)
            | .ret v => .pure (.done (.ret v))) (H' := (fun e => (do noteFrame e env; theTreesLotGoes e : Sem Unit).wrap (fun _ => .raise e) .raise id id))
        (fun f => by cases f <;> rfl)
        (fun e => by first | exact Sem.bind_eq_wrap _ _ | (show (do noteFrame e env; theTreesLotGoes e : Sem Unit).bind (fun _ => .raise e) = _; rw [Sem.bind_eq_wrap]))]
    exact h₃
end
end Mine

end
section
open PySem PySem.W PyProof.Rows PySem.Calls PySem.Spec
namespace Mine

/-- the units of a text, sign by sign: place, text -/
def unitsE : Nat → Bool → List Nat → List (Nat × Str)
  | _, _, [] => []
  | i, true, d :: r => (i, ⟨#[92, d]⟩) :: unitsE (i + 1) false r
  | i, false, d :: r => if d = 92 then unitsE (i + 1) true r else (i, ⟨#[d]⟩) :: unitsE (i + 1) false r
def endEsc : Bool → List Nat → Bool
  | e, [] => e
  | true, _ :: r => endEsc false r
  | false, d :: r => endEsc (d == 92) r

/-- what a step of the generator leaves: all below lo, and the generator at lo + 1 -/
structure StepG (c : P0) (lo : Nat) (s s' : Shared) : Prop where
  keep : ∀ b o, b < lo + 2 → b ≠ lo → s.heap.get? b = some o → s'.heap.get? b = some o
  inv : Inv c s'.heap
  gens : s'.gens = s.gens
  os : s'.os = s.os
theorem StepG.trans {c : P0} {lo : Nat} {s₁ s₂ s₃ : Shared} (a : StepG c lo s₁ s₂) (b : StepG c lo s₂ s₃) : StepG c lo s₁ s₃ :=
  ⟨fun x o hx hy e => b.keep x o hx hy (a.keep x o hx hy e), b.inv, b.gens.trans a.gens, b.os.trans a.os⟩

def tupObj (i : Nat) (t1 : Tok) (u : Str) (t2 : Tok) : Obj := { cls := .type "tuple", data := .seq #[.int i t1, .str u t2] }

abbrev GP (c : P0) (lo : Nat) : Nat → Shared → Shared → Prop := fun n s₀ s₁ => n = 0 ∧ StepG c lo s₀ s₁
abbrev GRet (c : P0) (lo : Nat) : GenEnd := fun n s₀ r s₁ => r = .ok (.ret .none) ∧ GP c lo n s₀ s₁
def GY (c : P0) (lo : Nat) (U : List (Nat × Str)) : Protocol := fun n s₀ v s' kap =>
  (∃ pos u a t1 t2, U.reverse[n]? = some (pos, u) ∧ v = .ref a ∧ s'.heap.get? a = some (tupObj pos t1 u t2)) ∧ StepG c lo s₀ s' ∧
  ∃ pv : List Addr, (∀ b ∈ pv, lo ≤ b) ∧ ∀ s'', (∀ b ∈ pv, ∀ o, s'.heap.get? b = some o → s''.heap.get? b = some o) → Inv c s''.heap → kap (.send .none) s''

/-- a generator of units at rest, n of them to come -/
def GenAt (c : P0) (A : Around) (lo : Nat) (U : List (Nat × Str)) (a gi n : Nat) (s : Shared) : Prop :=
  s.heap.IsGen a gi ∧ ∃ gs, s.gens[gi]? = some gs ∧ ∃ pv : List Addr, (∀ b ∈ pv, lo ≤ b) ∧
    ∀ s'', (∀ b ∈ pv, ∀ o, s.heap.get? b = some o → s''.heap.get? b = some o) → Inv c s''.heap → gs.Goes (MM c) A.in1 (GRet c lo) (GY c lo U) n (.send .none) s''
theorem GenAt.keeps {c : P0} {A : Around} {lo : Nat} {U : List (Nat × Str)} {a gi n : Nat} {s s' : Shared} (G : GenAt c A lo U a gi n s) (ha : lo ≤ a)
    (k : ∀ b o, lo ≤ b → s.heap.get? b = some o → s'.heap.get? b = some o) (hg : ∀ x, s.gens[gi]? = some x → s'.gens[gi]? = some x) : GenAt c A lo U a gi n s' := by
  obtain ⟨⟨o, nm, qn, ho, r⟩, gs, hgs, pv, hpv, h⟩ := G
  exact ⟨⟨o, nm, qn, k _ _ ha ho, r⟩, gs, hg _ hgs, pv, hpv, fun s'' k2 I => h s'' (fun b hb o' e => k2 b hb o' (k b o' (hpv b hb) e)) I⟩

section
variable {prog : Program} {w : World} {A : Around} {E : Value → Shared → Prop} {s : Shared} {env : Env}
theorem enum_turn {Q : Option Value → Shared → Prop} {xi xv : Str} {pi pv pt : Pos} {x1 : Nat} {e it : Addr} {x : Str} {t : Tok} {i d : Nat} {m : Str → Option Value} {old : Value} {Q' : Unit → Shared → Prop}
    (hh : A.handled = none) (hxi : env.kindOf xi = some .local) (hxv : env.kindOf xv = some .local)
    (hp : (env.scope.kind == .class || (env.scope.kind == .module && env.locals != env.globals)) = false)
    (hei : e ≠ it) (heL : e ≠ env.locals) (hiL : it ≠ env.locals)
    (he : IsEnum s.heap e it (i : Nat) old) (hit : s.heap.IsStrIter it "str_ascii_iterator" x t i) (hn : s.heap.Ns env.locals m) (hd : x.cps[i]? = some d)
    (hQ : ∀ a s₁, wpAny (model prog w) A (letOwnedTupleGo (.Tuple [.Name xi pi, .Name xv pv] x1 pt) (.ref e) (.ref a)) (fun _ s₂ => wpAny (model prog w) A (assign (.Tuple [.Name xi pi, .Name xv pv] x1 pt) env (.ref a)) Q' (fun _ _ => False) s₂) (fun _ _ => False) s₁ → Q (some (.ref a)) s₁)
    (h : ∀ h' tk tk1 tk2 v, h'.Ns env.locals (fun y => if y = xv then some (.str ⟨#[d]⟩ tk2) else if y = xi then some (.int i tk1) else m y) → IsEnum h' e it ((i + 1 : Nat) : Int) v →
      h'.IsStrIter it "str_ascii_iterator" x t (i + 1) → (∀ b o, b ≠ env.locals → b ≠ e → b ≠ it → s.heap.get? b = some o → h'.get? b = some o) → s.heap.objs.size ≤ h'.objs.size → Q' () { s with heap := h', toks := tk }) :
    wpAny (model prog w) A (pyNext (.ref e)) Q E s := by
  have hlt : i < x.cps.size := (Array.getElem?_eq_some_iff.mp hd).1
  have heH : e < s.heap.objs.size := Heap.lt_size he
  have hLH : env.locals < s.heap.objs.size := hn.lt
  obtain ⟨oi, hoi, _⟩ := id hit
  have hiH : it < s.heap.objs.size := Heap.lt_size hoi
  refine wpAny_pyNext_enum_itemD (Draws.strAscii (A := A.in1) hh it x t) he hit hlt hei (by simpa using hei) fun v h₁ tk hv heo hit₁ ht₁ hz₁ hk₁ => hQ _ _ ?_
  obtain ⟨d', u, hd', rfl⟩ := hv
  rw [hd] at hd'; cases hd'
  refine wpAny_letOwnedTupleGo_enum heo fun h₂ he₂ hs₂ => ?_
  replace hs₂ : Heap.SameBut e h₁ h₂ := hs₂
  have ht₂ : h₂.IsTuple s.heap.objs.size #[.int i tk, .str ⟨#[d]⟩ u] := ⟨_, (hs₂.2 _ (Nat.ne_of_gt heH)).trans ht₁, rfl, _, rfl⟩
  have hz₂ : h₂.objs.size = s.heap.objs.size + 1 := hs₂.1.trans hz₁
  refine wpAny_assign_Tuple hh ht₂ rfl rfl fun h₃ hx₃ => ?_
  replace hx₃ : Heap.ExtBut h₂.objs.size h₂ h₃ := hx₃
  have old₃ : ∀ b o, b < s.heap.objs.size → h₂.get? b = some o → h₃.get? b = some o := fun b o hb x => hx₃ b o (by rw [hz₂]; exact Nat.ne_of_lt (Nat.lt_succ_of_lt hb)) x
  have hn₃ : h₃.Ns env.locals m := (hn.at fun o x => hk₁ _ o (Ne.symm heL) (Ne.symm hiL) x).sameBut hs₂ (Ne.symm heL) |>.at fun o x => old₃ _ o hLH x
  have ht₃ : h₃.get? s.heap.objs.size ≠ none := by
    obtain ⟨ot, hot, _⟩ := ht₂
    rw [hx₃ _ _ (by rw [hz₂]; exact Nat.ne_of_lt (Nat.lt_succ_self _)) hot]; nofun
  have hz₃ : s.heap.objs.size ≤ h₃.objs.size := by
    cases q : h₃.get? s.heap.objs.size with
    | none => exact absurd q ht₃
    | some o => exact Nat.le_of_lt (Heap.lt_size q)
  show wpAny _ A (do holding [.str ⟨#[d]⟩ u] (assign (.Name xi pi) env (.int i tk)); do holding [] (assign (.Name xv pv) env (.str ⟨#[d]⟩ u)); pure ()) _ _ _
  refine wpAny_bind (wpAny_holding (wpAny_assign_Name (wpAny_storeName_local hxi hn₃ (fun h₄ hn₄ hs₄ => ?_) hp)))
  replace hs₄ : Heap.SameBut env.locals h₃ h₄ := hs₄
  refine wpAny_bind (wpAny_holding (wpAny_assign_Name (wpAny_storeName_local hxv hn₄ (fun h₅ hn₅ hs₅ => wpAny_pure ?_) hp)))
  replace hs₅ : Heap.SameBut env.locals h₄ h₅ := hs₅
  have up : ∀ b o, b ≠ env.locals → b < s.heap.objs.size → h₂.get? b = some o → h₅.get? b = some o := fun b o hbL hb x =>
    hs₅.extBut b o hbL (hs₄.extBut b o hbL (old₃ b o hb x))
  refine h h₅ _ tk u (.str ⟨#[d]⟩ u) hn₅ ?_ ?_ (fun b o hbL hbe hbi x => up b o hbL (Heap.lt_size x) (hs₂.extBut b o hbe (hk₁ b o hbe hbi x))) ?_
  · have : ((i + 1 : Nat) : Int) = (i : Int) + 1 := by push_cast; rfl
    rw [this]; exact up e _ heL heH he₂
  · obtain ⟨o₁, ho₁, r₁⟩ := hit₁.extBut hs₂.extBut (Ne.symm hei)
    exact ⟨o₁, up it _ hiL hiH ho₁, r₁⟩
  · rw [hs₅.1, hs₄.1]; exact hz₃
end
end Mine

end
section
open PySem PySem.W PyProof.Rows PySem.Calls PySem.Spec
namespace Mine
theorem fillG3 : ∀ (w : World) (h : Heap), (hd.heap_39 w.params).In h → model PySem.Challenge.rw_ph0043_01.prog w = model PySem.Challenge.rw_ph0043_01.prog w := by
  k_fill
  intro w h _; rfl

theorem seg_loop {M : Model} {A : Around} {R : GenEnd} {Y : Protocol} {Cd : Code} {fs : List Frame} (J : Nat → Nat → Shared → Shared → Prop)
    (turn : ∀ k n s₀ s, J k n s₀ s → (∀ k' n' s₀' s', k' < k → J k' n' s₀' s' → Seg M A R Y n' s₀' Cd (M.den Cd) fs s') → Seg M A R Y n s₀ Cd (M.den Cd) fs s) :
    ∀ k n s₀ s, J k n s₀ s → Seg M A R Y n s₀ Cd (M.den Cd) fs s := by
  intro k
  induction k using Nat.strongRecOn with
  | ind k ih => exact fun n s₀ s hJ => turn k n s₀ s hJ fun k' n' s₀' s' hk hJ' => ih k' hk n' s₀' s' hJ'

theorem enterGen {c : P0} {A : Around} {s : Shared}
    {R : Result → Shared → Prop} {name qual : Str} {params : Arguments} {body : List Stmt} {scope : Scope} {dV kV doc pm cdv ct oc : Value} {an od : Option Addr} {osl : Array (Option Value)} {f : Addr} {args : Args} {binds : List (Str × Value)}
    (I : Inv c s.heap)
    (ho : (hd.heap_39 c.w.params).lookup f = some ⟨oc, od, .func (fnOf name qual params body scope dV kV doc pm an cdv ct), osl⟩) (hcd : codeIn (hd.heap_39 c.w.params) cdv qual = true) (hroom : A.depth < recursionLimit)
    (hbind : BindsTo s (fnOf name qual params body scope dV kV doc pm an cdv ct) args binds) (hloc : ∀ y ∈ binds, scope.names.lookup y.1 = some .local)
    (h : ∀ (h' : Heap) (nm qn : Value) (tk : Nat), h'.Ns s.heap.objs.size (fun y => binds.reverse.lookup y) → h'.objs.size = s.heap.objs.size + 1 → (∀ b o, s.heap.get? b = some o → h'.get? b = some o) →
      R (.ok (.ret (.ref h'.objs.size))) { s with gens := s.gens.push (.fresh (.func body (envOf qual scope s.heap.objs.size f cdv))), toks := tk, heap := h'.push { cls := .type "generator", data := .fields #[.int s.gens.size 0, nm, qn] } })
    (hco : scope.isCoroutine = false) (hgen : scope.isGenerator = true) (hk : scope.kind = .function)
    (hcell : ∀ x ∈ scope.names, x.2 ≠ .cell) : codeAny (MM c) A (.call (.ref f) args) R s := by
  refine codeAny_call_generator (fd := fnOf name qual params body scope dV kV doc pm an cdv ct) hroom (I.X _ _ ho) rfl hco hgen rfl (codeRec_of I.X hcd) (hbind _ _ _ _ ?_)
  refine wpAny_newFunctionEnv hcell hloc (fun h' hns hsb => ⟨I.T.nolimit.fresh _ hsb, ?_⟩) hk
  exact h h' _ _ _ hns (by rw [hsb.1, Heap.size_push]) fun b o e => hsb.extBut b o (Nat.ne_of_lt (Heap.lt_size e)) (Heap.get?_push_of_some _ e)

theorem GenAt.fresh {c : P0} {A : Around} {lo : Nat} {U : List (Nat × Str)} {a gi n : Nat} {s : Shared} {cd : Code} (hg : s.heap.IsGen a gi) (hgs : s.gens[gi]? = some (.fresh cd)) (pv : List Addr) (hpv : ∀ b ∈ pv, lo ≤ b)
    (h : ∀ s'', (∀ b ∈ pv, ∀ o, s.heap.get? b = some o → s''.heap.get? b = some o) → Inv c s''.heap → Seg (MM c) A.in1 (GRet c lo) (GY c lo U) n s'' cd ((MM c).den cd) [] s'') : GenAt c A lo U a gi n s :=
  ⟨hg, _, hgs, pv, hpv, fun s'' k I => ⟨rfl, h s'' k I⟩⟩
theorem fnG {c : P0} {L : Addr} (h : c.gT.objs.size ≤ L) : Fn c c.gT c.gT L := ⟨fun _ _ e => e, fun _ _ e _ _ => e, fun _ _ e => e, c.n44, c.n51, h, h⟩

/-- the head of the generator's loop -/
structure LoopG (c : P0) (x : Str) (t : Tok) (Lg e it : Addr) (i : Nat) (esc : Bool) (s : Shared) : Prop where
  inv : Inv c s.heap
  ns : ∃ m : Str → Option Value, s.heap.Ns Lg (fun y => if y = Str.ofString "escape" then some (.bool esc) else m y)
  he : ∃ old, IsEnum s.heap e it (i : Nat) old
  hit : s.heap.IsStrIter it "str_ascii_iterator" x t i

theorem rev_get {α : Type} (pre : List α) (u : α) (rest : List α) : (pre ++ u :: rest).reverse[rest.length]? = some u := by
  rw [List.reverse_append, List.reverse_cons, List.append_assoc]
  rw [List.getElem?_append_right (by rw [List.length_reverse]; exact Nat.le_refl _), List.length_reverse, Nat.sub_self]
  rfl
theorem drop_at {l : List Nat} {i d : Nat} (h : l[i]? = some d) : l.drop i = d :: l.drop (i + 1) := by
  obtain ⟨hl, rfl⟩ := List.getElem?_eq_some_iff.mp h
  exact List.drop_eq_getElem_cons hl

theorem esc_app (d : Nat) : Str.ofString "\\" ++ (⟨#[d]⟩ : Str) = ⟨#[92, d]⟩ := by
  rw [show Str.ofString "\\" = ⟨#[92]⟩ by decide +kernel]; rfl

/-- from the loop's head at sign i to its body -/
theorem LoopG.turn {c : P0} {x : Str} {t : Tok} {Lg e it : Addr} {i : Nat} {esc : Bool} {s : Shared} (G : LoopG c x t Lg e it i esc s) (hlo : c.gT.objs.size ≤ Lg) (heL : Lg < e) (hiL : Lg < it)
    {h' : Heap} (k : ∀ b o, b ≠ Lg → b ≠ e → b ≠ it → s.heap.get? b = some o → h'.get? b = some o) (hz : c.gT.objs.size ≤ h'.objs.size) : Inv c h' := by
  refine G.inv.but (fun b => b = Lg ∨ b = e ∨ b = it) (fun b o eb hb => k b o (fun q => hb (.inl q)) (fun q => hb (.inr (.inl q))) (fun q => hb (.inr (.inr q))) eb) ?_ ?_ hz
  · rintro b (rfl | rfl | rfl)
    · exact hlo
    · exact Nat.le_trans hlo (Nat.le_of_lt heL)
    · exact Nat.le_trans hlo (Nat.le_of_lt hiL)
  · rintro b o (rfl | rfl | rfl) eb ⟨vs, _, _, hv, hv1⟩
    · obtain ⟨m, oL, es, ep, eL, hdL, _⟩ := G.ns
      rw [eb] at eL; cases eL; rw [hdL] at hv; cases hv
    · obtain ⟨old, he⟩ := G.he
      have he' : s.heap.get? b = _ := he
      rw [eb] at he'; cases he'; cases hv; cases hv1
    · obtain ⟨oi, hoi, hci, hdi⟩ := G.hit
      rw [eb] at hoi; cases hoi; rw [hdi] at hv; cases hv; cases hv1

set_option maxRecDepth 100000 in
set_option maxHeartbeats 4000000 in
theorem iter_spec : ∀ (c : P0) (A A' : Around) (s : Shared) (x : Str) (tk : Tok), Inv c s.heap → Rm A 1 → Rm A' 3 → x.cps.all (· < 128) = true → endEsc false x.cps.toList = false →
    ∀ R : Result → Shared → Prop, (∀ a s', a = s.heap.objs.size + 1 → StepG c s.heap.objs.size { s with gens := s'.gens } s' → s'.gens.size = s.gens.size + 1 → (∀ (i : Nat) (x : GenState), s.gens[i]? = some x → s'.gens[i]? = some x) → (AllBare s.gens → AllBare s'.gens) →
      GenAt c A' s.heap.objs.size (unitsE 0 false x.cps.toList) a s.gens.size (unitsE 0 false x.cps.toList).length s' → R (.ok (.ret (.ref a))) s') →
    codeAny (MM c) A (.call (.ref 21) ⟨[.str x tk], []⟩) R s := by
  k_with_none
  k_with "m_inv" => exact Pt.inv (by assumption) (by assumption) (by k_asm) (by k_asm) (by walk_at "m_fz") (by walk_at "m_tab") (by walk_at "m_tab")
  intro c A A' s x tk I hA hA' hasc hend R hR
  refine' enterGen (binds := [(Str.ofString "addr", .str x tk)]) I ?k1 ?k2 hA.lt ?k4 ?k5 ?_ ?c2 ?c3 ?c4 ?c5
  case k1 => k_is
  case k2 => k_is
  case k4 => exact BindsTo.of_eq rfl
  case k5 => exact locs rfl
  case c2 => exact rfl
  case c3 => exact rfl
  case c4 => exact rfl
  case c5 => decide
  intro h' nm qn tk' hns hsz hk
  refine' hR _ _ ?a1 ?a2 ?a3 ?a4 ?a5 (GenAt.fresh ?a6 (Array.getElem?_push_size ..) [s.heap.objs.size, s.heap.objs.size + 1] ?a7 ?a8)
  case a1 => exact hsz
  case a2 =>
    have hkk : ∀ b o, s.heap.get? b = some o → (h'.push { cls := .type "generator", data := .fields #[.int s.gens.size 0, nm, qn] }).get? b = some o := fun b o eb => Heap.get?_push_of_some _ (hk b o eb)
    exact ⟨fun b o _ _ eb => hkk b o eb, I.keeps hkk (by rw [Heap.size_push, hsz]; exact Nat.le_trans I.size (by omega)), rfl, rfl⟩
  case a3 => exact Array.size_push ..
  case a4 =>
    intro i y hy
    obtain ⟨hl, rfl⟩ := Array.getElem?_eq_some_iff.mp hy
    exact Array.getElem?_push_lt hl
  case a5 => exact fun hb => hb.push rfl
  case a6 => exact ⟨_, nm, qn, Heap.get?_push_size _ rfl, rfl, rfl, rfl⟩
  case a7 => intro b hb; simp only [List.mem_cons, List.not_mem_nil, or_false] at hb; rcases hb with rfl | rfl <;> omega
  case a8 =>
    intro s'' hpv I''
    have hn'' : s''.heap.Ns s.heap.objs.size _ := hns.at fun o e => hpv _ (.head _) o (Heap.get?_push_of_some _ e)
    have hlo : c.gT.objs.size ≤ s.heap.objs.size := I.size
    have hga := hpv (s.heap.objs.size + 1) (by simp) _ (hsz ▸ Heap.get?_push_size _ rfl)
    clear hns hsz hk hpv hR
    generalize s.heap.objs.size = Lg at *
    have Z := fnG hlo
    have F : Fr c.gT Lg s''.heap _ := ⟨hn'', I''.top, hlo⟩
    obtain ⟨p, q, fz, N, P⟩ := renew Z F (own := []) News.nil (fun _ hx => by cases hx) I''
    have X := Z.X
    have T := Z.T
    refine seg_func ?_
    generalize Code.func _ _ = CF
    refine seg_stmt ?_
    k_fold
    k_steps
    refine seg_stmt ?_
    k_fold
    k_steps
    rename Fr _ _ _ _ => F1
    rename News _ _ _ _ => N1
    refine seg_execs_cons (seg_For (fun _ => rfl) ?_)
    k_fold
    k_steps
    refine call_enumerate_str fun h2 he2 hit2 hz2 hk2 => ?_
    refine wpAny_pyIter_enum he2 fun p0 => ?_
    dsimp only at he2 hit2 hz2 hk2 ⊢
    rw [show strIterType x = "str_ascii_iterator" by simp [strIterType, hasc]] at hit2
    have I1 : Inv c _ := Pt.inv Z P F1 N1 (by intro y hy; simp [hy]) (by simp) (by simp)
    have I2 : Inv c h2 := I1.keeps hk2 (by rw [hz2]; exact Nat.le_trans I1.size (Nat.le_add_right _ _))
    have hn2 := F1.ns.keeps hk2
    have kp : ∀ b o, b < Lg + 2 → b ≠ Lg → s''.heap.get? b = some o → h2.get? b = some o := fun b o _ hb eb => hk2 b o (P.keptAll F1 N1 (by intro y hy; simp [hy]) (by simp) (by simp) b o eb hb (fun _ hy => by cases hy))
    have hL1 := Heap.lt_size (P.keptAll F1 N1 (by intro y hy; simp [hy]) (by simp) (by simp) _ _ hga (Nat.succ_ne_self Lg) (fun _ hy => by cases hy))
    clear F1 N1 hk2 hz2 I1
    rename_i hx
    generalize hx.objs.size = it at *
    have hiL1 : Lg + 1 < it := hL1
    have heL1 : Lg + 1 < it + 1 := Nat.lt_succ_of_lt hL1
    have hiL : Lg < it := Nat.lt_of_succ_lt hL1
    have heL : Lg < it + 1 := Nat.lt_succ_of_lt hiL
    have hei : it + 1 ≠ it := Nat.succ_ne_self it
    clear hL1
    generalize it + 1 = e at *
    generalize hU : unitsE 0 false x.cps.toList = U at *
    refine seg_loop (fun k n s₀ s => ∃ i esc pre, LoopG c x tk Lg e it i esc s ∧ i ≤ x.cps.size ∧ k = x.cps.size - i ∧ n = (unitsE i esc (x.cps.toList.drop i)).length ∧ endEsc esc (x.cps.toList.drop i) = false ∧ StepG c Lg s₀ s ∧ U = pre ++ unitsE i esc (x.cps.toList.drop i))
      (fun k n s₀ s hJ ih => ?_) x.cps.size U.length s'' _ ⟨0, false, [], ⟨I2, ⟨_, hn2⟩, ⟨_, he2⟩, hit2⟩, Nat.zero_le _, rfl, by rw [List.drop_zero, hU], hend, ⟨kp, I2, rfl, rfl⟩, by rw [List.drop_zero, hU]; rfl⟩
    obtain ⟨i, esc, pre, G, hile, rfl, rfl, hen, hst, hsuf⟩ := hJ
    refine seg_forLoop ?_
    obtain ⟨m, hn⟩ := G.ns
    obtain ⟨old, he⟩ := G.he
    cases hd : x.cps[i]? with
    | none =>
      have hi : x.cps.toList.drop i = [] := by
        rw [List.drop_eq_nil_iff, Array.length_toList]; exact Array.getElem?_eq_none_iff.mp hd
      rw [hi] at hen hsuf ⊢
      obtain rfl : esc = false := hen
      have hie : i = x.cps.size := Nat.le_antisymm hile (Array.getElem?_eq_none_iff.mp hd)
      refine wpAny_pyNext_enum_endD (Draws.strAscii (by exact hA'.handled) it x tk) he (hie ▸ G.hit) fun h' hx => ?_
      have hn' := hn.extBut hx (Nat.ne_of_lt hiL)
      have I' : Inv c h' := G.turn hlo heL hiL (fun b o _ _ hb eb => hx b o hb eb) (Nat.le_trans hlo (Nat.le_of_lt hn'.lt))
      refine seg_again rfl ?_
      refine seg_leaf (.ok .next) ?_
      refine seg_execs_cons (seg_If ?_)
      have F : Fr c.gT Lg h' _ := ⟨hn', I'.top, hlo⟩
      obtain ⟨p, q, fz, N, P⟩ := renew Z F (own := []) News.nil (fun _ hx => by cases hx) I'
      show wpAny _ _ _ _ _ _
      k_fold
      k_steps
      refine seg_end (.ok (.ret .none)) ⟨rfl, rfl, hst.trans ⟨fun b o hb hb' eb => ?_, ?_, rfl, rfl⟩⟩
      · exact hx b o (Nat.ne_of_lt (by omega)) eb
      · exact I'
    | some d =>
      have hdr := drop_at (l := x.cps.toList) (i := i) (d := d) (by rw [Array.getElem?_toList]; exact hd)
      have hlt : i < x.cps.size := (Array.getElem?_eq_some_iff.mp hd).1
      rw [hdr] at hen hsuf ⊢
      refine enum_turn (by exact hA'.handled) rfl rfl rfl hei (Nat.ne_of_gt heL) (Nat.ne_of_gt hiL) he G.hit hn hd (fun a s₁ y => y) fun h' tk0 tk1 tk2 v0 hn' he' hit' hk' _ => ?_
      have I' : Inv c h' := G.turn hlo heL hiL hk' (Nat.le_trans hlo (Nat.le_of_lt hn'.lt))
      have F : Fr c.gT Lg h' _ := ⟨hn', I'.top, hlo⟩
      obtain ⟨p, q, fz, N, P⟩ := renew Z F (own := []) News.nil (fun _ hx => by cases hx) I'
      have st' : StepG c Lg s₀ { s with heap := h', toks := tk0 } := hst.trans ⟨fun b o hb hb' eb => hk' b o hb' (Nat.ne_of_lt (by omega)) (Nat.ne_of_lt (by omega)) eb, I', rfl, rfl⟩
      refine seg_execs_cons (seg_If ?_)
      cases esc with
      | true =>
        show wpAny _ _ _ _ _ _
        k_fold
        k_steps
        refine seg_execs_cons (seg_Expr_Yield (n := (unitsE (i + 1) false (x.cps.toList.drop (i + 1))).length) rfl rfl rfl ?_)
        show wpAny _ _ _ _ _ _
        k_fold
        k_steps
        rename Fr _ _ _ _ => F2
        rename News _ _ _ _ => N2
        rename_i kap hkap
        have kp2 := P.keptAll F2 N2 (by intro y hy; simp [hy]) (by simp) (by simp)
        have I2' := Pt.inv Z P F2 N2 (by intro y hy; simp [hy]) (by simp) (by simp)
        rw [esc_app] at N2
        refine ⟨⟨i, ⟨#[92, d]⟩, _, _, _, ?_, rfl, (N2 _ (.head _)).1⟩, st'.trans ⟨fun b o _ hb eb => kp2 b o eb hb (fun _ hy => by cases hy), I2', rfl, rfl⟩, [Lg, e, it], ?_, fun s3 hpv I3 => hkap .none s3 ?_⟩
        · rw [hsuf]; exact rev_get ..
        · intro b hb
          simp only [List.mem_cons, List.not_mem_nil, or_false] at hb
          rcases hb with rfl | rfl | rfl
          · exact Nat.le_refl _
          · exact Nat.le_of_lt heL
          · exact Nat.le_of_lt hiL
        · have F3 : Fr c.gT Lg s3.heap _ := ⟨F2.ns.at fun o eo => hpv Lg (by simp) o eo, I3.top, hlo⟩
          have e3 : IsEnum s3.heap e it _ v0 := hpv e (by simp) _ (kp2 _ _ he' (Nat.ne_of_gt heL) (fun _ hy => by cases hy))
          have i3 : s3.heap.IsStrIter it "str_ascii_iterator" x tk (i + 1) := let ⟨o, ho, r⟩ := hit'; ⟨o, hpv it (by simp) _ (kp2 _ _ ho (Nat.ne_of_gt hiL) (fun _ hy => by cases hy)), r⟩
          clear N2 kp2 I2' hkap F2
          obtain ⟨p3, q3, fz3, N3, P3⟩ := renew Z F3 (own := []) News.nil (fun _ hx => by cases hx) I3
          refine seg_stmt ?_
          show wpAny _ _ _ _ _ _
          k_fold
          k_steps
          rename Fr _ _ _ _ => F4
          rename News _ _ _ _ => N4
          have kp4 := P3.keptAll F4 N4 (by intro y hy; simp [hy]) (by simp) (by simp)
          have I4 := Pt.inv Z P3 F4 N4 (by intro y hy; simp [hy]) (by simp) (by simp)
          refine seg_again rfl (ih (x.cps.size - (i + 1)) _ s3 _ (by omega) ⟨i + 1, false, pre ++ [(i, ⟨#[92, d]⟩)], ⟨I4, ⟨_, F4.ns⟩, ⟨v0, ?_⟩, ?_⟩, hlt, rfl, rfl, hen, ⟨fun b o _ hb eb => kp4 b o eb hb (fun _ hy => by cases hy), I4, rfl, rfl⟩, ?_⟩)
          · exact kp4 _ _ e3 (Nat.ne_of_gt heL) (fun _ hy => by cases hy)
          · exact let ⟨o, ho, r⟩ := i3; ⟨o, kp4 _ _ ho (Nat.ne_of_gt hiL) (fun _ hy => by cases hy), r⟩
          · rw [hsuf, List.append_assoc]; rfl
      | false =>
        show wpAny _ _ _ _ _ _
        k_fold
        k_steps
        by_cases h92 : d = 92
        · subst h92
          have hen' : endEsc true (x.cps.toList.drop (i + 1)) = false := hen
          rw [show unitsE i false (92 :: x.cps.toList.drop (i + 1)) = unitsE (i + 1) true (x.cps.toList.drop (i + 1)) by rw [unitsE, if_pos rfl]] at hsuf ⊢
          refine seg_execs_cons (seg_If ?_)
          show wpAny _ _ _ _ _ _
          k_fold
          k_steps
          refine seg_stmt ?_
          show wpAny _ _ _ _ _ _
          k_fold
          k_steps
          rename Fr _ _ _ _ => F4
          rename News _ _ _ _ => N4
          have kp4 := P.keptAll F4 N4 (by intro y hy; simp [hy]) (by simp) (by simp)
          have I4 := Pt.inv Z P F4 N4 (by intro y hy; simp [hy]) (by simp) (by simp)
          refine seg_again rfl (ih (x.cps.size - (i + 1)) _ s₀ _ (by omega) ⟨i + 1, true, pre, ⟨I4, ⟨_, F4.ns⟩, ⟨v0, ?_⟩, ?_⟩, hlt, rfl, rfl, hen', st'.trans ⟨fun b o _ hb eb => kp4 b o eb hb (fun _ hy => by cases hy), I4, rfl, rfl⟩, hsuf⟩)
          · exact kp4 _ _ he' (Nat.ne_of_gt heL) (fun _ hy => by cases hy)
          · exact let ⟨o, ho, r⟩ := hit'; ⟨o, kp4 _ _ ho (Nat.ne_of_gt hiL) (fun _ hy => by cases hy), r⟩
        · have hen' : endEsc false (x.cps.toList.drop (i + 1)) = false := by
            rw [endEsc, show (d == 92) = false by simpa using h92] at hen; exact hen
          rw [show unitsE i false (d :: x.cps.toList.drop (i + 1)) = (i, ⟨#[d]⟩) :: unitsE (i + 1) false (x.cps.toList.drop (i + 1)) by rw [unitsE, if_neg h92]] at hsuf ⊢
          have hne : ((⟨#[d]⟩ : Str) == Str.ofString "\\") = false := by
            rw [show Str.ofString "\\" = ⟨#[92]⟩ by decide +kernel]
            simpa using h92
          refine seg_execs_cons (seg_If ?_)
          show wpAny _ _ _ _ _ _
          k_fold
          k_steps
          refine seg_execs_cons (seg_Expr_Yield (n := (unitsE (i + 1) false (x.cps.toList.drop (i + 1))).length) rfl rfl rfl ?_)
          show wpAny _ _ _ _ _ _
          k_fold
          k_steps
          rename Fr _ _ _ _ => F2
          rename News _ _ _ _ => N2
          rename_i kap hkap
          have kp2 := P.keptAll F2 N2 (by intro y hy; simp [hy]) (by simp) (by simp)
          have I2' := Pt.inv Z P F2 N2 (by intro y hy; simp [hy]) (by simp) (by simp)
          refine ⟨⟨i, ⟨#[d]⟩, _, _, _, ?_, rfl, (N2 _ (.head _)).1⟩, st'.trans ⟨fun b o _ hb eb => kp2 b o eb hb (fun _ hy => by cases hy), I2', rfl, rfl⟩, [Lg, e, it], ?_, fun s3 hpv I3 => hkap .none s3 ?_⟩
          · rw [hsuf]; exact rev_get ..
          · intro b hb
            simp only [List.mem_cons, List.not_mem_nil, or_false] at hb
            rcases hb with rfl | rfl | rfl
            · exact Nat.le_refl _
            · exact Nat.le_of_lt heL
            · exact Nat.le_of_lt hiL
          · have n3 : s3.heap.Ns Lg _ := F2.ns.at fun o eo => hpv Lg (by simp) o eo
            have e3 : IsEnum s3.heap e it _ v0 := hpv e (by simp) _ (kp2 _ _ he' (Nat.ne_of_gt heL) (fun _ hy => by cases hy))
            have i3 : s3.heap.IsStrIter it "str_ascii_iterator" x tk (i + 1) := let ⟨o, ho, r⟩ := hit'; ⟨o, hpv it (by simp) _ (kp2 _ _ ho (Nat.ne_of_gt hiL) (fun _ hy => by cases hy)), r⟩
            refine seg_again rfl (ih (x.cps.size - (i + 1)) _ s3 _ (by omega) ⟨i + 1, false, pre ++ [(i, ⟨#[d]⟩)], ⟨I3, ⟨_, ns_as n3 rfl⟩, ⟨v0, e3⟩, i3⟩, hlt, rfl, rfl, hen', ⟨fun _ _ _ _ eb => eb, I3, rfl, rfl⟩, ?_⟩)
            rw [hsuf, List.append_assoc]; rfl
end Mine

end
section
open PySem PySem.W PyProof.Rows PySem.Calls PySem.Spec
namespace Mine

section
variable {prog : Program} {w : World} {A : Around} {E : Value → Shared → Prop} {s : Shared}
theorem next_gen {a : Addr} {g n : Nat} {gs : GenState} {P : Nat → Shared → Shared → Prop} {Y : Protocol} {Q : Option Value → Shared → Prop} (hh : A.handled = none)
    (hl : s.heap.NoLimit) (hroom : A.depth < recursionLimit) (hg : s.heap.IsGen a g) (hgs : s.gens[g]? = some gs)
    (hgo : gs.Goes (model prog w) A.in1 (fun n s₀ r s₁ => r = .ok (.ret .none) ∧ P n s₀ s₁) Y n (.send .none) (s.setGen g .running))
    (hY : ∀ v s₁ gs', gs'.bare = true → Y (n - 1) (s.setGen g .running) v s₁ (fun r' s'' => match n with
        | 0 => False
        | m + 1 => gs'.Goes (model prog w) A.in1 (fun n s₀ r s₁ => r = .ok (.ret .none) ∧ P n s₀ s₁) Y m r' s'') → Q (some v) (s₁.setGen g gs'))
    (hP : ∀ s₁, P n (s.setGen g .running) s₁ → ∀ h', (∀ b o, s₁.heap.get? b = some o → h'.get? b = some o) → Q none { s₁.setGen g .finished with heap := h' }) :
    wpAny (model prog w) A (pyNext (.ref a)) Q E s := by
  unfold pyNext
  refine wpAny_bind (wpAny_attempt (wpAny_callSpecial?_slot (name := Str.ofString "__next__") hg.typeIs slot_gen_next
    (wpAny_call_entry slot_gen_next hg.typeIs entry_gen_next ?_ (args_gen_next _))))
  show wpAny _ A.in1 (Builtin.Generator.genWake (.ref a) (.send .none)) _ _ s
  unfold Builtin.Generator.genWake
  refine wpAny_bind (wpAny_holding (wpAny_genNumber hg (wpAny_bind (wpAny_genState hgs ?_))))
  cases gs with
  | running => exact hgo.elim
  | finished => exact hgo.elim
  | _ =>
    refine wpAny_bind (wpAny_roomToWake hl hroom ?_)
    show wpAny _ A.in1 (.resume g (.send .none) [] _) _ _ s
    refine wpAny_resumeQ hgs hgo (fun x s₁ hx => ?_) (fun v s₁ gs' hb hv => ?_)
    · obtain ⟨rfl, hp⟩ := hx
      show wpAny _ A.in1 (newExc (.type "StopIteration") [] >>= _) _ _ _
      refine wpAny_bind ?_
      simp only [newExc, newTuple]
      refine wpAny_bind (wpAny_newObj_type ?_ (by size_fits))
      refine wpAny_bind (m := firstArgMember _ _) (wpAny_of_eq (a := Value.none) (by first | rfl | (simp only [firstArgMember]; rfl)) ?_)
      refine wpAny_newObj_type ?_ (by size_fits)
      simp only [raiseNew]
      refine wpAny_bind (wpAny_bind (wpAny_handled ?_))
      rw [show A.in1.handled = none from hh]
      refine wpAny_throw ?_
      refine wpAny_bind (wpAny_isInstance (T := "StopIteration") (b := true) ⟨_, Heap.get?_push_size _ rfl, rfl⟩ isSubtype_stop ?_)
      exact wpAny_pure (hP s₁ hp _ fun b o hb => Heap.get?_push_of_some _ (Heap.get?_push_of_some _ hb))
    · exact wpAny_pure ⟨v, rfl, wpAny_pure (hY v s₁ gs' hb hv)⟩
end

structure StepN (c : P0) (lo gi : Nat) (s s' : Shared) : Prop where
  keep : ∀ b o, b < lo + 2 → b ≠ lo → s.heap.get? b = some o → s'.heap.get? b = some o
  inv : Inv c s'.heap
  gens : ∀ i : Nat, i ≠ gi → s'.gens[i]? = s.gens[i]?
  bare : AllBare s.gens → AllBare s'.gens
  os : s'.os = s.os

theorem bare_set {gens : Array GenState} {g : Nat} {x : GenState} (h : AllBare gens) (hx : x.bare = true) : AllBare (gens.setIfInBounds g x) := by
  intro y hy
  rcases Array.mem_or_eq_of_mem_setIfInBounds hy with h1 | h1
  · exact h y h1
  · rw [h1]; exact hx

theorem gen_next {c : P0} {A : Around} {d lo : Nat} {U : List (Nat × Str)} {gi n : Nat} {s : Shared} {Q : Option Value → Shared → Prop} {E : Value → Shared → Prop} (hA : Rm A d) (I : Inv c s.heap) (hlo : c.gT.objs.size ≤ lo) (G : GenAt c A lo U (lo + 1) gi n s)
    (h0 : n = 0 → ∀ s', StepN c lo gi s s' → Q none s')
    (h1 : ∀ k, n = k + 1 → ∀ s' t pos u t1 t2, U.reverse[k]? = some (pos, u) → s'.heap.get? t = some (tupObj pos t1 u t2) → StepN c lo gi s s' → GenAt c A lo U (lo + 1) gi k s' → Q (some (.ref t)) s') :
    wpAny (MM c) A (pyNext (.ref (lo + 1))) Q E s := by
  obtain ⟨hg, gs, hgs, pv, hpv, go⟩ := G
  have hgl : gi < s.gens.size := (Array.getElem?_eq_some_iff.mp hgs).1
  refine next_gen hA.handled I.T.nolimit hA.lt hg hgs (go (s.setGen gi .running) (fun _ _ _ e => e) I) (fun v s₁ gs' hb hv => ?_) fun s₁ hp h' hk => ?_
  · obtain ⟨⟨pos, u, a, t1, t2, hu, rfl, ht⟩, st, pv', hpv', kap⟩ := hv
    have hgen : s₁.gens = s.gens.setIfInBounds gi .running := st.gens
    have hsz : gi < s₁.gens.size := by rw [hgen, Array.size_setIfInBounds]; exact hgl
    cases n with
    | zero => exact (kap s₁ (fun _ _ _ e => e) st.inv).elim
    | succ k =>
      refine h1 k rfl (s₁.setGen gi gs') a pos u t1 t2 hu ht ⟨st.keep, st.inv, fun i hi => ?_, fun hbr => ?_, st.os⟩ ⟨?_, gs', ?_, pv', hpv', fun s'' k' I' => kap s'' k' I'⟩
      · show (s₁.gens.setIfInBounds gi gs')[i]? = s.gens[i]?
        rw [Array.getElem?_setIfInBounds_ne (Ne.symm hi), hgen, Array.getElem?_setIfInBounds_ne (Ne.symm hi)]
      · show AllBare (s₁.gens.setIfInBounds gi gs')
        rw [hgen]; exact bare_set (bare_set hbr rfl) hb
      · obtain ⟨o, nm, qn, ho, r⟩ := hg
        exact ⟨o, nm, qn, st.keep _ _ (Nat.lt_succ_self _) (Nat.succ_ne_self _) ho, r⟩
      · exact Array.getElem?_setIfInBounds_self_of_lt hsz
  · obtain ⟨rfl, st⟩ := hp
    have hgen : s₁.gens = s.gens.setIfInBounds gi .running := st.gens
    obtain ⟨o, nm, qn, ho, _⟩ := hg
    have ho' := hk _ _ (st.keep _ _ (Nat.lt_succ_self _) (Nat.succ_ne_self _) ho)
    refine h0 rfl { s₁.setGen gi .finished with heap := h' } ⟨fun b o hb hb' e => hk b o (st.keep b o hb hb' e), st.inv.keeps hk (Nat.le_trans hlo (Nat.le_of_lt (Nat.lt_of_succ_lt (Heap.lt_size ho')))), fun i hi => ?_, fun hbr => ?_, st.os⟩
    · show (s₁.gens.setIfInBounds gi .finished)[i]? = s.gens[i]?
      rw [Array.getElem?_setIfInBounds_ne (Ne.symm hi), hgen, Array.getElem?_setIfInBounds_ne (Ne.symm hi)]
    · show AllBare (s₁.gens.setIfInBounds gi .finished)
      rw [hgen]; exact bare_set (bare_set hbr rfl) rfl
end Mine

end
section
open PySem PySem.W PyProof.Rows PySem.Calls PySem.Spec
namespace Mine

theorem letGo_gen {prog : Program} {w : World} {A : Around} {E : Value → Shared → Prop} {s : Shared} {elts : List Expr} {x1 : Nat} {pos : Pos} {a t : Addr} {gi : Nat} {Q : Unit → Shared → Prop} (hg : s.heap.IsGen a gi) (h : Q () s) :
    wpAny (model prog w) A (letOwnedTupleGo (.Tuple elts x1 pos) (.ref a) (.ref t)) Q E s := by
  obtain ⟨o, nm, qn, ho, hc, hd, _⟩ := hg
  unfold letOwnedTupleGo
  refine wpAny_bind (wpAny_load ho ?_)
  rw [hc, hd]
  exact wpAny_pure h

theorem fr_lo {g h h' : Heap} {L lo : Nat} {m : Str → Option Value} (F : Fr g L h m) (hL : L < lo) (k : ∀ b o, b < lo + 2 → b ≠ lo → h.get? b = some o → h'.get? b = some o) : Fr g L h' m := by
  have lt : ∀ b o, g.get? b = some o → b < lo := fun b o e => Nat.lt_of_lt_of_le (Nat.lt_of_lt_of_le (Heap.lt_size e) F.above) (Nat.le_of_lt hL)
  exact ⟨F.ns.at fun o e => k _ _ (Nat.lt_of_lt_of_le hL (Nat.le_add_right lo 2)) (Nat.ne_of_lt hL) e, fun b o e => k b o (Nat.lt_of_lt_of_le (lt b o e) (Nat.le_add_right lo 2)) (Nat.ne_of_lt (lt b o e)) (F.keep b o e), F.above⟩

structure BodyG (lo : Nat) (s s' : Shared) : Prop where
  hi : ∀ b o, lo ≤ b → s.heap.get? b = some o → s'.heap.get? b = some o
  gens : ∀ (i : Nat) (x : GenState), s.gens[i]? = some x → s'.gens[i]? = some x
  bare : AllBare s.gens → AllBare s'.gens
  os : s'.os = s.os
structure SinceG (gi : Nat) (s s' : Shared) : Prop where
  gens : ∀ (i : Nat) (x : GenState), i ≠ gi → s.gens[i]? = some x → s'.gens[i]? = some x
  bare : AllBare s.gens → AllBare s'.gens
  os : s'.os = s.os
theorem SinceG.refl (gi : Nat) (s : Shared) : SinceG gi s s := ⟨fun _ _ _ e => e, fun e => e, rfl⟩
theorem SinceG.trans {gi : Nat} {s₁ s₂ s₃ : Shared} (a : SinceG gi s₁ s₂) (b : SinceG gi s₂ s₃) : SinceG gi s₁ s₃ := ⟨fun i x hi e => b.gens i x hi (a.gens i x hi e), fun e => b.bare (a.bare e), b.os.trans a.os⟩

structure TurnG (c : P0) (g : Heap) (L : Addr) (Jk : (Str → Option Value) → Prop) (lo : Nat) (s₁ s₂ : Shared) : Prop where
  fr : ∃ m₂, Fr g L s₂.heap m₂ ∧ Jk m₂
  inv : Inv c s₂.heap
  body : BodyG lo s₁ s₂

theorem map_as {m : Str → Option Value} {k : Str} {v : Value} (hk : m k = some v) : m = fun y => if y = k then some v else m y := funext fun y => by
  by_cases q : y = k
  · subst q; rw [if_pos rfl]; exact hk
  · rw [if_neg q]
theorem turnG {c : P0} {g h₀ h₂ : Heap} {L lo : Nat} {Jk : (Str → Option Value) → Prop} {s₁ : Shared} {tk : Nat} {m₂ : Str → Option Value} {p q : Array Value} {fz news : List (Addr × Obj)} (Z : Fn c h₀ g L) (hlo : L < lo) (P : Pt g L [] s₁.heap p q fz)
    (F : Fr g L h₂ m₂) (N : News g L h₂ news) (hs : ∀ x ∈ fz, x ∈ news) (h44 : (44, tabObj p) ∈ news) (h51 : (51, tabObj q) ∈ news) (hJ : Jk m₂) : TurnG c g L Jk lo s₁ { s₁ with heap := h₂, toks := tk } :=
  ⟨⟨m₂, F, hJ⟩, P.inv Z F N hs h44 h51, ⟨fun b o hb e => P.keptAll F N hs h44 h51 b o e (Nat.ne_of_gt (Nat.lt_of_lt_of_le hlo hb)) (fun _ hy => by cases hy), fun _ _ e => e, fun e => e, rfl⟩⟩

theorem gen_loop {c : P0} {A : Around} {d lo gi n : Nat} {U : List (Nat × Str)} {env : Env} {xi xv : Str} {pi pv pt : Pos} {x1 : Nat} {body : List Stmt} {R : Result → Shared → Prop} {g h₀ : Heap} {L : Addr} {s : Shared} {m : Str → Option Value}
    (hA : Rm A d) (Z : Fn c h₀ g L) (hL : env.locals = L) (hxi : env.kindOf xi = some .local) (hxv : env.kindOf xv = some .local)
    (hp : (env.scope.kind == .class || (env.scope.kind == .module && env.locals != env.globals)) = false) (hlo : L < lo)
    (J : Nat → (Str → Option Value) → Prop) (F : Fr g L s.heap m) (I : Inv c s.heap) (G : GenAt c A lo U (lo + 1) gi n s) (h0 : J n m)
    (step : ∀ (k : Nat) (s₁ : Shared) (m₁ : Str → Option Value) (pos : Nat) (u : Str) (t1 t2 : Tok), U.reverse[k]? = some (pos, u) → J (k + 1) m₁ → SinceG gi s s₁ → Inv c s₁.heap → Fr g L s₁.heap (fun y => if y = xv then some (.str u t2) else if y = xi then some (.int pos t1) else m₁ y) →
      wpAny (MM c) A (execs body env) (fun f s₂ => match f with
        | .next | .cont => TurnG c g L (J k) lo s₁ s₂
        | .brk => R (.ok .next) s₂
        | .ret v => R (.ok (.ret v)) s₂) (fun _ _ => False) s₁)
    (hR : ∀ s' m', SinceG gi s s' → Inv c s'.heap → Fr g L s'.heap m' → J 0 m' → R (.ok .next) s') :
    codeAny (MM c) A (.forLoop (.Tuple [.Name xi pi, .Name xv pv] x1 pt) (.ref (lo + 1)) body [] env) R s := by
  subst hL
  have hgl : c.gT.objs.size ≤ lo := Nat.le_trans Z.tl (Nat.le_of_lt hlo)
  refine codeAny_forLoop_any (fun k s' => ∃ m', Fr g env.locals s'.heap m' ∧ Inv c s'.heap ∧ GenAt c A lo U (lo + 1) gi k s' ∧ J k m' ∧ SinceG gi s s') (fun k s' hI => ?_) n ⟨m, F, I, G, h0, SinceG.refl _ _⟩
  obtain ⟨m', F', I', G', hJ, S'⟩ := hI
  have keepF : ∀ {s₁ : Shared}, StepN c lo gi s' s₁ → Fr g env.locals s₁.heap m' := fun st => by
    have lt : ∀ b o, g.get? b = some o → b < lo := fun b o e => Nat.lt_of_lt_of_le (Nat.lt_of_lt_of_le (Heap.lt_size e) F'.above) (Nat.le_of_lt hlo)
    exact ⟨F'.ns.at fun o e => st.keep _ _ (Nat.lt_of_lt_of_le hlo (Nat.le_add_right lo 2)) (Nat.ne_of_lt hlo) e, fun b o e => st.keep b o (Nat.lt_of_lt_of_le (lt b o e) (Nat.le_add_right lo 2)) (Nat.ne_of_lt (lt b o e)) (F'.keep b o e), F'.above⟩
  have since : ∀ {s₁ : Shared}, StepN c lo gi s' s₁ → SinceG gi s' s₁ := fun st => ⟨fun i x hi e => (st.gens i hi).trans e, st.bare, st.os⟩
  refine gen_next hA I' hgl G' (fun hk s₁ st => ?_) fun k' hk s₁ t pos u t1 t2 hu ht st G₁ => ?_
  · subst hk
    exact wpAny_execs_nil (hR s₁ m' (S'.trans (since st)) st.inv (keepF st) hJ)
  · subst hk
    refine letGo_gen G₁.1 ?_
    have F₁ := keepF st
    have hT : s₁.heap.IsTuple t #[.int pos t1, .str u t2] := ⟨_, ht, rfl, _, rfl⟩
    refine wpAny_assign_Tuple hA.handled hT rfl rfl fun h₃ hx₃ => ?_
    replace hx₃ : Heap.ExtBut s₁.heap.objs.size s₁.heap h₃ := hx₃
    have k₃ : ∀ b o, s₁.heap.get? b = some o → h₃.get? b = some o := fun b o e => hx₃ b o (Nat.ne_of_lt (Heap.lt_size e)) e
    have F₃ : Fr g env.locals h₃ m' := ⟨F₁.ns.keeps k₃, fun b o e => k₃ b o (F₁.keep b o e), F₁.above⟩
    have z₃ : c.gT.objs.size ≤ h₃.objs.size := Nat.le_trans hgl (Nat.le_of_lt (Nat.lt_of_succ_lt (Heap.lt_size (k₃ _ _ G₁.1.choose_spec.choose_spec.choose_spec.1))))
    show wpAny _ A (do holding [.str u t2] (assign (.Name xi pi) env (.int pos t1)); do holding [] (assign (.Name xv pv) env (.str u t2)); pure ()) _ _ _
    refine wpAny_bind (wpAny_holding (wpAny_assign_Name (wpAny_storeName_local hxi F₃.ns (fun h₄ hn₄ hs₄ => ?_) hp)))
    replace hs₄ : Heap.SameBut env.locals h₃ h₄ := hs₄
    refine wpAny_bind (wpAny_holding (wpAny_assign_Name (wpAny_storeName_local hxv hn₄ (fun h₅ hn₅ hs₅ => wpAny_pure ?_) hp)))
    replace hs₅ : Heap.SameBut env.locals h₄ h₅ := hs₅
    have F₅ := (F₃.set hn₄ hs₄).set hn₅ hs₅
    have I₃ : Inv c h₃ := st.inv.keeps k₃ z₃
    have I₅ : Inv c h₅ := by
      refine I₃.but (fun b => b = env.locals) (fun b o e hb => hs₅.extBut b o hb (hs₄.extBut b o hb e)) (fun b hb => by rw [hb]; exact Z.tl) (fun b o hb e hc => ?_) (Nat.le_trans Z.tl (Nat.le_of_lt hn₅.lt))
      obtain ⟨oL, es, ep, eL, hdL, _⟩ := F₃.ns
      obtain ⟨vs, _, _, hv, _⟩ := hc
      rw [hb, eL] at e; cases e; rw [hdL] at hv; cases hv
    have hi5 : ∀ b o, lo ≤ b → s₁.heap.get? b = some o → h₅.get? b = some o := fun b o hb e => by
      have hne : b ≠ env.locals := Nat.ne_of_gt (Nat.lt_of_lt_of_le hlo hb)
      exact hs₅.extBut b o hne (hs₄.extBut b o hne (k₃ b o e))
    have S1 : SinceG gi s { s₁ with heap := h₅, toks := s₁.toks + 1 + 1 } := S'.trans ⟨(since st).gens, (since st).bare, (since st).os⟩
    refine wpAny_mono (step k' { s₁ with heap := h₅, toks := s₁.toks + 1 + 1 } m' pos u t1 t2 hu hJ S1 I₅ F₅) (fun f s₂ h₂ => ?_) fun _ _ x => x.elim
    have again : TurnG c g env.locals (J k') lo { s₁ with heap := h₅, toks := s₁.toks + 1 + 1 } s₂ → ∃ k, k < k' + 1 ∧ ∃ m', Fr g env.locals s₂.heap m' ∧ Inv c s₂.heap ∧ GenAt c A lo U (lo + 1) gi k s₂ ∧ J k m' ∧ SinceG gi s s₂ := by
      rintro ⟨⟨m₂, F₂, hJ₂⟩, I₂, B⟩
      refine ⟨k', Nat.lt_succ_self _, m₂, F₂, I₂, G₁.keeps (by omega) (fun b o hb e => B.hi b o hb (hi5 b o hb e)) (fun x e => B.gens gi x e), hJ₂, (S'.trans (since st)).trans ⟨fun i x _ e => B.gens i x e, B.bare, B.os⟩⟩
    cases f with
    | next => exact again h₂
    | cont => exact again h₂
    | brk => exact h₂
    | ret v => exact h₂
end Mine

end
section
open PySem PySem.W PyProof.Rows PySem.Calls PySem.Spec
namespace Mine
theorem fillD2 : ∀ (w : World) (h : Heap), (hd.heap_39 w.params).In h → model PySem.Challenge.rw_ph0043_01.prog w = model PySem.Challenge.rw_ph0043_01.prog w := by
  k_fill
  intro w h _; rfl

/-- the count of brackets, unit by unit -/
def balU : List Str → Int → Bool
  | [], n => n == 0
  | u :: r, n => if u = ⟨#[40]⟩ then balU r (n + 1) else if u = ⟨#[41]⟩ then (if n - 1 < 0 then false else balU r (n - 1)) else balU r n

def remU (U : List (Nat × Str)) (n : Nat) : List (Nat × Str) := U.drop (U.length - n)
theorem remU_full (U : List (Nat × Str)) : remU U U.length = U := by unfold remU; rw [Nat.sub_self]; rfl
theorem remU_zero (U : List (Nat × Str)) : remU U 0 = [] := by unfold remU; rw [Nat.sub_zero, List.drop_length]
theorem remU_succ {U : List (Nat × Str)} {k : Nat} {x : Nat × Str} (h : U.reverse[k]? = some x) : remU U (k + 1) = x :: remU U k := by
  unfold remU
  have hk : k < U.length := by
    have := (List.getElem?_eq_some_iff.mp h).1
    rwa [List.length_reverse] at this
  rw [List.getElem?_reverse hk] at h
  have e : U.length - (k + 1) = U.length - 1 - k := by omega
  rw [e]
  obtain ⟨hl, rfl⟩ := List.getElem?_eq_some_iff.mp h
  rw [List.drop_eq_getElem_cons hl]
  congr 1
  congr 1
  omega

set_option maxRecDepth 100000 in
set_option maxHeartbeats 4000000 in
theorem check_spec : ∀ (c : P0) (A : Around) (s : Shared) (x : Str) (tk : Tok), Inv c s.heap → Rm A 5 → (∀ y ∈ x.cps.toList, y ≠ 34) → x.cps.all (· < 128) = true → endEsc false x.cps.toList = false →
    Calls c A (.ref 35) [.str x tk] s (fun v _ => v = .bool (balU ((unitsE 0 false x.cps.toList).map (·.2)) 0)) := by
  k_with_none
  k_with "m_inv" => exact Pt.inv (by assumption) (by assumption) (by k_asm) (by k_asm) (by walk_at "m_fz") (by walk_at "m_tab") (by walk_at "m_tab")
  intro c A s x tk I hA hq hasc hend R hR
  refine' enterM (binds := [(Str.ofString "addr", .str x tk)]) I ?k1 ?k2 hA.lt ?k4 ?k5 ?_ ?c2 ?c3 ?c4 ?c5
  case k1 => k_is
  case k2 => k_is
  case k4 => exact BindsTo.of_eq rfl
  case k5 => exact locs rfl
  case c2 => exact rfl
  case c3 => exact rfl
  case c4 => exact rfl
  case c5 => decide
  intro g L h₁ p q fz AA hAA Z F N P ext X T
  have hA1 := hAA 4 hA
  show wpAny _ _ _ _ _ _
  k_fold
  k_steps
  refine Calls.use (strip_spec c AA _ x _ (by walk_at "m_inv") (hA1.le (by decide)) hq) fun v s1 a1 hv => ?_
  subst hv
  obtain ⟨F1, p1, q1, fz1, N1, P1⟩ := after_step [] Z F N (fun _ h => by cases h) a1
  clear F N P
  k_fold
  k_steps
  refine wpAny_For ?_
  k_fold
  k_steps
  rename Fr _ _ _ _ => F2
  rename News _ _ _ _ => N2
  refine wpAny_call (iter_spec c AA AA _ x _ (by walk_at "m_inv") (hA1.le (by decide)) (hA1.le (by decide)) hasc hend _ fun a s2 ha st hgs hgi hbr G => ?_)
  subst ha
  refine wpAny_pyIter_gen G.1 ?_
  dsimp only at st hgs hgi hbr G ⊢
  have F3 : Fr g L s2.heap _ := fr_lo F2 F2.ns.lt st.keep
  have hL2 := F2.ns.lt
  clear P1 N2 F2
  generalize hU : unitsE 0 false x.cps.toList = U at *
  have hg0 : ∀ (i : Nat) (y : GenState), s.gens[i]? = some y → s2.gens[i]? = some y ∧ i ≠ s1.gens.size := fun i y e =>
    have e1 := a1.gens i y e
    ⟨hgi i y e1, Nat.ne_of_lt (Array.getElem?_eq_some_iff.mp e1).1⟩
  have hb0 : AllBare s.gens → AllBare s2.gens := fun e => hbr (a1.bare e)
  have ho0 : s2.os = s.os := st.os.trans a1.os
  refine gen_loop hA1 Z rfl rfl rfl rfl hL2 (fun n m' => ∃ (op : Int) (t : Tok), m' (Str.ofString "opens") = some (.int op t) ∧ balU ((remU U n).map (·.2)) op = balU (U.map (·.2)) 0)
    F3 st.inv G ⟨0, _, rfl, by rw [remU_full]⟩ (fun k s₁ m₁ pos u t1 t2 hu hJ S1 I1 F4 => ?_) (fun s' m' S' I' F' hJ => ?_)
  · obtain ⟨op, t, hm, hb⟩ := hJ
    rw [remU_succ hu, List.map_cons, balU] at hb
    rw [map_as hm] at F4
    obtain ⟨p4, q4, fz4, N4, P4⟩ := renew Z F4 (own := []) News.nil (fun _ hx => by cases hx) I1
    have eO : Str.ofString "(" = ⟨#[40]⟩ := by decide +kernel
    have eC : Str.ofString ")" = ⟨#[41]⟩ := by decide +kernel
    show wpAny _ _ _ _ _ _
    k_fold
    k_steps
    · rename (u == Str.ofString "(") = true => h1
      rw [if_pos (by rw [← eO]; exact eq_of_beq h1)] at hb
      exact turnG Z hL2 P4 (by k_asm) (by k_asm) (by intro y hy; simp [hy]) (by simp) (by simp) ⟨op + 1, _, rfl, hb⟩
    · rename (u == Str.ofString "(") = false => h1
      rename (u == Str.ofString ")") = true => h2
      rename op - 1 < 0 => h3
      rw [if_neg (by rw [← eO]; exact ne_of_beq_false h1), if_pos (by rw [← eC]; exact eq_of_beq h2), if_pos h3] at hb
      exact hR _ _ (fin Z (by k_asm) (by walk_at "m_inv") (fun i y e => S1.gens i y (hg0 i y e).2 (hg0 i y e).1) (fun e => S1.bare (hb0 e)) (S1.os.trans ho0)) (by rw [hb])
    · rename (u == Str.ofString "(") = false => h1
      rename (u == Str.ofString ")") = true => h2
      rename ¬ (op - 1 < 0) => h3
      rw [if_neg (by rw [← eO]; exact ne_of_beq_false h1), if_pos (by rw [← eC]; exact eq_of_beq h2), if_neg h3] at hb
      exact turnG Z hL2 P4 (by k_asm) (by k_asm) (by intro y hy; simp [hy]) (by simp) (by simp) ⟨op - 1, _, rfl, hb⟩
    · rename (u == Str.ofString "(") = false => h1
      rename (u == Str.ofString ")") = false => h2
      rw [if_neg (by rw [← eO]; exact ne_of_beq_false h1), if_neg (by rw [← eC]; exact ne_of_beq_false h2)] at hb
      exact turnG Z hL2 P4 (by k_asm) (by k_asm) (by intro y hy; simp [hy]) (by simp) (by simp) ⟨op, _, rfl, hb⟩
  · obtain ⟨op, t, hm, hb⟩ := hJ
    rw [remU_zero, List.map_nil, balU] at hb
    rw [map_as hm] at F'
    obtain ⟨p4, q4, fz4, N4, P4⟩ := renew Z F' (own := []) News.nil (fun _ hx => by cases hx) I'
    show wpAny _ _ _ _ _ _
    k_steps
    exact hR _ _ (fin Z (by k_asm) (by walk_at "m_inv") (fun i y e => S'.gens i y (hg0 i y e).2 (hg0 i y e).1) (fun e => S'.bare (hb0 e)) (S'.os.trans ho0)) (by rw [hb])
end Mine

end
section
open PySem PySem.W PyProof.Rows PySem.Calls PySem.Spec
set_option maxRecDepth 100000
namespace Mine

theorem fslot_ga : Slot "function" "__getattribute__" "object.__getattribute__" :=
  .of (owner := "object") (n := "__getattribute__") (by rw [typeLookup_type, builtinLookup_eq_fast]; kernel_rfl) (by decide +kernel) (by decide +kernel) (by decide +kernel)
    (by first | exact .inl (by decide +kernel) | exact .inr (by decide +kernel)) (by rw [isSubtype_type]; kernel_rfl)
theorem fslot_sa : Slot "function" "__setattr__" "object.__setattr__" :=
  .of (owner := "object") (n := "__setattr__") (by rw [typeLookup_type, builtinLookup_eq_fast]; kernel_rfl) (by decide +kernel) (by decide +kernel) (by decide +kernel)
    (by first | exact .inl (by decide +kernel) | exact .inr (by decide +kernel)) (by rw [isSubtype_type]; kernel_rfl)
theorem f_bool : typeLookup (.type "function") "__bool__" = pure none := by rw [typeLookup_type, builtinLookup_eq_fast]; kernel_rfl
theorem f_len : typeLookup (.type "function") "__len__" = pure none := by rw [typeLookup_type, builtinLookup_eq_fast]; kernel_rfl
theorem f_span : typeLookup (.type "function") "span" = pure none := by rw [typeLookup_type, builtinLookup_eq_fast]; kernel_rfl
theorem f_search : typeLookup (.type "function") "search" = pure none := by rw [typeLookup_type, builtinLookup_eq_fast]; kernel_rfl
theorem f_getattr : typeLookup (.type "function") "__getattr__" = pure none := by rw [typeLookup_type, builtinLookup_eq_fast]; kernel_rfl
theorem e_ga : entryFor table "object.__getattribute__" = some Builtin.«object.__getattribute__» := entryFor_of_tree (by kernel_rfl)
theorem e_sa : entryFor table "object.__setattr__" = some Builtin.«object.__setattr__» := entryFor_of_tree (by kernel_rfl)
theorem a_ga (a b : Value) : argsOk "object.__getattribute__" ⟨[a, b], []⟩ := by
  first
    | exact F.args_object_getattribute_2 a b
    | (unfold argsOk; kernel_rfl)
theorem a_sa (a b v : Value) : argsOk "object.__setattr__" ⟨[a, b, v], []⟩ := by
  first
    | exact F.args_object_setattr_3 a b v
    | (unfold argsOk; kernel_rfl)

theorem f_mro : mroOf (.type "function") = pure [.type "function", .type "object"] := by rw [mroOf_type]; kernel_rfl
theorem f_refuse (f : Addr) : refuseLoop (.ref f) "__setattr__" [.type "function", .type "object"] = pure () := by kernel_rfl

section
variable {prog : Program} {w : World} {A : Around} {E : Value → Shared → Prop} {s : Shared} {f d : Addr} {fd : FuncData} {sl : Array (Option Value)} {md : Str → Option Value} {name : Str} {v : Value}

theorem fn_truthy {Q : Bool → Shared → Prop} {od : Option Addr} (ho : s.heap.get? f = some ⟨.type "function", od, .func fd, sl⟩) (h : Q true s) : wpAny (model prog w) A (truthy (.ref f)) Q E s := by
  have hT : s.TypeIs (.ref f) "function" := ⟨_, ho, rfl⟩
  unfold truthy
  refine wpAny_bind (wpAny_callSpecial?_none hT f_bool ?_)
  refine wpAny_bind (wpAny_specialOf hT f_len ?_)
  exact wpAny_pure h

theorem fn_getAttr {Q : Value → Shared → Prop} {b : Bool} (ho : s.heap.get? f = some ⟨.type "function", some d, .func fd, sl⟩) (hn : s.heap.Ns d md) (hv : md name = some v) (hmiss : typeLookup (.type "function") name = pure none) (hh : handedOut v = pure v)
    (h : Q v { s with toks := s.toks + 1 }) : wpAny (model prog w) A (getAttr (.ref f) name b) Q E s := by
  obtain ⟨hp, g, dr, tk, os⟩ := s
  have hT : ∀ tk', (⟨hp, g, dr, tk', os⟩ : Shared).TypeIs (.ref f) "function" := fun _ => ⟨_, ho, rfl⟩
  unfold getAttr getAttrBy
  refine wpAny_bind (wpAny_mkText ?_)
  refine wpAny_holding ?_
  refine wpAny_bind (wpAny_typeOf (hT _) ?_)
  refine wpAny_bind (wpAny_of_eq fslot_ga.lookup ?_)
  show wpAny _ _ (getAttrByItsOwn (.ref f) (.str name tk) (.type "function") (.builtin "object.__getattribute__") true b) _ _ _
  unfold getAttrByItsOwn
  refine wpAny_bind (wpAny_pure ?_)
  refine wpAny_bind (wpAny_attempt (wpAny_holding ?_))
  have e : callGetattribute (.ref f) (.str name tk) (.builtin "object.__getattribute__") b = boundAndCalled (.builtin "object.__getattribute__") (.ref f) (.str name tk) := by
    unfold callGetattribute; cases b <;> rfl
  rw [e]
  unfold boundAndCalled
  refine wpAny_bind (wpAny_of_eq (fslot_ga.bind (.ref f)) ?_)
  refine wpAny_call_entry fslot_ga (hT _) e_ga ?_ (a_ga _ _)
  unfold Builtin.«object.__getattribute__»
  have hT' := hT (tk + 1)
  repeat (any_goals (first | assumption | (refine wpAny_nsGet hn ?_; rw [hv]) | wp_step))
  exact ⟨v, rfl, wpAny_of_eq hh h⟩

theorem fn_getMethod {Q : Value × List Value → Shared → Prop} {pl : Sem Bool} (ho : s.heap.get? f = some ⟨.type "function", some d, .func fd, sl⟩) (hn : s.heap.Ns d md) (hv : md name = some v) (hmiss : typeLookup (.type "function") name = pure none) (hh : handedOut v = pure v)
    (h : Q (v, []) { s with toks := s.toks + 1 }) : wpAny (model prog w) A (getMethod (.ref f) name pl) Q E s := by
  have hT : s.TypeIs (.ref f) "function" := ⟨_, ho, rfl⟩
  unfold getMethod
  refine wpAny_bind (wpAny_specialOf hT fslot_ga.lookup ?_)
  refine wpAny_ite_false (by decide +kernel) ?_
  refine wpAny_bind (wpAny_specialOf hT f_getattr ?_)
  refine wpAny_bind (wpAny_specialOf hT hmiss ?_)
  exact wpAny_bind (fn_getAttr ho hn hv hmiss hh (wpAny_pure h))

theorem fn_setAttr {Q : Unit → Shared → Prop} (ho : s.heap.get? f = some ⟨.type "function", none, .func fd, sl⟩) (hmiss : typeLookup (.type "function") name = pure none)
    (h : ∀ h' tk, h'.get? f = some ⟨.type "function", some s.heap.objs.size, .func fd, sl⟩ → h'.Ns s.heap.objs.size (fun y => if y = name then some v else none) →
      (∀ b o, b ≠ f → s.heap.get? b = some o → h'.get? b = some o) → Q () { s with heap := h', toks := tk }) : wpAny (model prog w) A (setAttr (.ref f) name v) Q E s := by
  obtain ⟨hp, g, dr, tk, os⟩ := s
  have hT : ∀ tk', (⟨hp, g, dr, tk', os⟩ : Shared).TypeIs (.ref f) "function" := fun _ => ⟨_, ho, rfl⟩
  unfold setAttr
  refine wpAny_bind (wpAny_mkText ?_)
  refine wpAny_bind (wpAny_callSpecial?_slot (hT _) fslot_sa ?_)
  refine wpAny_call_entry fslot_sa (hT _) e_sa ?_ (a_sa _ _ _)
  unfold Builtin.«object.__setattr__»
  refine wpAny_ite_false (by rfl) ?_
  show wpAny _ _ (Builtin.ObjectAttr.refuseIfOverridden (.ref f) "__setattr__" >>= _) _ _ _
  rw [refuse_eq]
  refine wpAny_bind (wpAny_bind (wpAny_typeOf (hT _) ?_))
  refine wpAny_bind (wpAny_of_eq f_mro (wpAny_of_eq (f_refuse f) ?_))
  refine wpAny_bind (wpAny_pure ?_)
  refine wpAny_bind (wpAny_typeOf (hT _) ?_)
  refine wpAny_bind (wpAny_of_eq hmiss ?_)
  refine wpAny_bind (wpAny_pure ?_)
  show wpAny _ _ (Builtin.ObjectAttr.storeInOwnDict (.ref f) (.type "function") (.str name tk) name v false) _ _ _
  unfold Builtin.ObjectAttr.storeInOwnDict
  refine wpAny_bind (wpAny_pure ?_)
  refine wpAny_ite_false (by rfl) ?_
  refine wpAny_bind ?_
  show wpAny _ _ (instanceDict f true) _ _ _
  unfold instanceDict
  refine wpAny_bind (wpAny_loadPart ho ?_)
  refine wpAny_ite_false (by show decide ((!true || !typeHasDict (.type "function")) = true) = false; decide +kernel) ?_
  refine wpAny_bind (wpAny_alloc ?_)
  have hf1 : (hp.push { cls := .type "dict", data := .dict #[] }).get? f = some ⟨.type "function", none, .func fd, sl⟩ := Heap.get?_push_of_some _ ho
  refine wpAny_bind (wpAny_update hf1 ?_)
  have hlt : f < hp.objs.size := Heap.lt_size ho
  have hs : Heap.SameBut f (hp.push { cls := .type "dict", data := .dict #[] }) ((hp.push { cls := .type "dict", data := .dict #[] }).update f fun o => { o with dict := some hp.objs.size }) := Heap.SameBut.update ..
  have hf2 : ((hp.push { cls := .type "dict", data := .dict #[] }).update f fun o => { o with dict := some hp.objs.size }).get? f = some ⟨.type "function", some hp.objs.size, .func fd, sl⟩ := Heap.get?_update_self _ hf1 rfl
  have hd2 : ((hp.push { cls := .type "dict", data := .dict #[] }).update f fun o => { o with dict := some hp.objs.size }).get? hp.objs.size = some (dictOf [] 0) := hs.extBut _ _ (Nat.ne_of_gt hlt) (Heap.get?_push_size _ rfl)
  show wpAny _ _ (pure (some hp.objs.size)) _ _ _
  refine wpAny_pure ?_
  show wpAny _ _ (Builtin.ObjectAttr.storeInDict hp.objs.size (.str name tk) name v) _ _ _
  unfold Builtin.ObjectAttr.storeInDict
  refine wpAny_bind (wpAny_pure ?_)
  have e1 : Obj.putName name (PyData.keyHash w.params name) (.str name (tk + 1)) v (dictOf [] 0) = dictOf [⟨PyData.keyHash w.params name, .str name (tk + 1), v⟩] 1 := by
    rw [putName_dict, putL_new (fun _ h => by cases h)]; rfl
  refine wpAny_bind ?_
  unfold nsSet
  refine wpAny_bind (wpAny_bind (wpAny_askSetting (wpAny_pure (wpAny_bind (wpAny_mkText (wpAny_bind (wpAny_loadPart hd2 ?_)))))))
  dsimp only
  rw [show aRefKeyMayBeTheName name ([] : List DictEntry).toArray = false from rfl]
  refine wpAny_updatePart hd2 ?_
  have hs3 : Heap.SameBut hp.objs.size ((hp.push { cls := .type "dict", data := .dict #[] }).update f fun o => { o with dict := some hp.objs.size }) (((hp.push { cls := .type "dict", data := .dict #[] }).update f fun o => { o with dict := some hp.objs.size }).update hp.objs.size (Obj.putName name (PyData.keyHash w.params name) (.str name (tk + 1)) v)) := Heap.SameBut.update ..
  have e3 : (((hp.push { cls := .type "dict", data := .dict #[] }).update f fun o => { o with dict := some hp.objs.size }).update hp.objs.size (Obj.putName name (PyData.keyHash w.params name) (.str name (tk + 1)) v)).get? hp.objs.size = some (dictOf [⟨PyData.keyHash w.params name, .str name (tk + 1), v⟩] 1) := by
    rw [← e1]; exact Heap.get?_update_self _ hd2 (by rw [e1]; rfl)
  refine wpAny_bind (wpAny_lookBehind e3 rfl (wpAny_pure ⟨_, rfl, ?_⟩))
  refine wpAny_pure ?_
  refine h _ _ (hs3.extBut _ _ (Nat.ne_of_lt hlt) hf2) ⟨_, _, _, e3, rfl, ?_, fun y => ?_⟩ fun b o hb e => hs3.extBut b o (Nat.ne_of_lt (Heap.lt_size e)) (hs.extBut b o hb (Heap.get?_push_of_some _ e))
  · intro en hen
    simp only [List.mem_toArray, List.mem_singleton] at hen
    subst hen
    exact ⟨_, _, rfl⟩
  · by_cases q : y = name
    · subst q; simp [nsFind, findBy, Value.isStr]
    · have q' : (name == y) = false := by simpa using Ne.symm q
      simp [nsFind, findBy, Value.isStr, q, q']
end
end Mine

end
section
open PySem PySem.W PyProof.Rows PySem.Calls PySem.Spec
namespace Mine
theorem enterC {c : P0} {A : Around} {s : Shared}
    {R : Result → Shared → Prop} {name qual : Str} {params : Arguments} {body : List Stmt} {scope : Scope} {dV kV doc pm cdv ct oc : Value} {an od : Option Addr} {osl : Array (Option Value)} {f : Addr} {args : Args} {binds : List (Str × Value)}
    (I : Inv c s.heap)
    (ho : (hd.heap_39 c.w.params).lookup f = some ⟨oc, od, .func (fnOf name qual params body scope dV kV doc pm an cdv ct), osl⟩) (hcd : codeIn (hd.heap_39 c.w.params) cdv qual = true) (hroom : A.depth < recursionLimit)
    (hbind : BindsTo s (fnOf name qual params body scope dV kV doc pm an cdv ct) args binds) (hkind : (binds.all fun y => scope.names.lookup y.1 == some .local || scope.names.lookup y.1 == some .cell) = true)
    (hnd : ((cellsFrom 0 scope.names []).map (·.1)).Nodup)
    (h : ∀ g L h₁ tk cells AA, (∀ d, Rm A (d + 1) → Rm AA d) → Fn c s.heap g L → Fr g L h₁ (bindL (envOfC qual scope L f cdv).kindOf binds fun _ => none) → News g L h₁ cells →
      CellsAre (bindC (envOfC qual scope L f cdv).kindOf binds fun _ => none) (cellsFrom (L + 1) scope.names []) cells → Inv c h₁ →
      (hd.heap_39 c.w.params).In g → Top topProg c.loose c.mean c.mg c.mb g →
      wpAny (MM c) AA (execs body (envOfC qual scope L f cdv))
        (fun fl s' => R (.ok (.ret (match fl with | .ret v => v | _ => .none))) s') (fun _ _ => False)
        { s with heap := h₁, toks := tk })
    (hco : scope.isCoroutine = false) (hgen : scope.isGenerator = false) (hk : scope.kind = .function) : codeAny (MM c) A (.call (.ref f) args) R s := by
  refine codeAny_call_function (fd := fnOf name qual params body scope dV kV doc pm an cdv ct) hroom (I.X _ _ ho) rfl hco hgen rfl (codeRec_of I.X hcd) (hbind _ _ _ _ ?_)
  refine wpAny_newFunctionEnv_cells hk (kindsX hkind _) fun env' he s' x => ?_
  subst he
  have hk₁ := x.toInCall.keep
  have I' : Inv c s'.heap := I.keeps hk₁ (Nat.le_trans I.size (Nat.le_of_lt x.toInCall.ns.lt))
  refine ⟨I.T.nolimit.keeps hk₁, codeAny_func ?_⟩
  obtain ⟨h₁, tk, rfl, _⟩ := x.done
  obtain ⟨cells, NC, Y⟩ := Cl.news (h₀ := s.heap) (Nat.le_refl _) fun n c hm => ⟨x.cell n c (lookup_of_mem_nodup (cellsFrom_names scope.names 0 (s.heap.objs.size + 1) [] [] rfl ▸ hnd) hm), x.above n c hm⟩
  have Z := Fn.start I
  refine wpAny_mono (h (gh s.heap) s.heap.objs.size h₁ tk cells _ (fun _ r => r.deeper _) Z ⟨x.toInCall.ns, fun b o e => hk₁ b o (of_gh e), Nat.le_of_eq gh_size⟩ (fun p hp => ?_) Y I' Z.X Z.T) (fun _ _ y => y) fun _ _ y => y.elim
  · refine ⟨(NC p hp).1, (NC p hp).2.1, ?_⟩
    cases q : (gh s.heap).get? p.1 with
    | none => rfl
    | some o => have := of_gh q; rw [(NC p hp).2.2] at this; cases this

/-- what lies at lo and above stays, and so does what may be a code object -/
def Stable (lo : Nat) (h h' : Heap) : Prop := ∀ b o, h.get? b = some o → lo ≤ b ∨ CodeLike o → h'.get? b = some o
theorem Stable.refl (lo : Nat) (h : Heap) : Stable lo h h := fun _ _ e _ => e
theorem Stable.trans {lo : Nat} {h₁ h₂ h₃ : Heap} (a : Stable lo h₁ h₂) (b : Stable lo h₂ h₃) : Stable lo h₁ h₃ := fun x o e q => b x o (a x o e q) q
theorem Inv.not_code {c : P0} {h : Heap} (I : Inv c h) {b : Addr} {o : Obj} (e : h.get? b = some o) (hc : CodeLike o) : b ≠ 44 ∧ b ≠ 51 := by
  obtain ⟨p, hp, tp⟩ := I.t44
  obtain ⟨q, hq, tq⟩ := I.t51
  exact ⟨fun z => by rw [z, hp] at e; cases e; exact tab_not_code tp hc, fun z => by rw [z, hq] at e; cases e; exact tab_not_code tq hc⟩
theorem After.stable {c : P0} {s s' : Shared} {lo : Nat} (a : After c s s') (I : Inv c s.heap) (hlo : c.gT.objs.size ≤ lo) : Stable lo s.heap s'.heap := fun b o e q => by
  rcases q with q | q
  · have h1 : 51 < b := Nat.lt_of_lt_of_le c.lt (Nat.le_trans hlo q)
    exact a.ext b o e (Nat.ne_of_gt (Nat.lt_trans (by decide) h1)) (Nat.ne_of_gt h1)
  · exact a.ext b o e (I.not_code e q).1 (I.not_code e q).2
theorem Pt.stable {c : P0} {h₀ g h h'' : Heap} {L lo : Nat} {m'' : Str → Option Value} {p q : Array Value} {fz news : List (Addr × Obj)} (Z : Fn c h₀ g L) (P : Pt g L [] h p q fz) (F : Fr g L h'' m'') (N : News g L h'' news) (hs : ∀ x ∈ fz, x ∈ news) (hlo : L < lo) : Stable lo h h'' := fun b o e r => by
  rcases r with r | r
  · have h1 : 51 < b := Nat.lt_of_lt_of_le c.lt (Nat.le_trans Z.tl (Nat.le_trans (Nat.le_of_lt hlo) r))
    exact P.kept F N hs b o e (Nat.ne_of_gt (Nat.lt_of_lt_of_le hlo r)) (Nat.ne_of_gt (Nat.lt_trans (by decide) h1)) (Nat.ne_of_gt h1) (fun _ hy => by cases hy)
  · have z := P.code b o e r
    exact P.kept F N hs b o e z.1 z.2.1 z.2.2.1 z.2.2.2

theorem among_new {pos pos' : Pos} {v : Value} (l : List Value) (h : TriplesOk l) (hn : (pos'.line == pos.line && pos'.col == pos.col) = false) : codeAmong pos (l ++ [rawInt pos'.line, rawInt pos'.col, v]) = codeAmong pos l := by
  fun_induction TriplesOk l with
  | case1 =>
    simp only [List.nil_append, codeAmong, rawInt]
    rw [if_neg]
    intro q
    simp at q hn
    omega
  | case2 a t b u x rest ih => simp only [List.cons_append, codeAmong]; rw [ih h]
  | case3 l h1 h2 => exact h.elim
theorem Tab.add {spec : List (Pos × Str)} {h h' : Heap} {ps : Array Value} {pos : Pos} {q : Str} {v : Value} (x : Tab spec h ps) (k : ∀ b o, h.get? b = some o → CodeLike o → h'.get? b = some o)
    (hn : codeAmong pos ps.toList = none) (hv : h'.CodeRec v q) (hq : ∀ y ∈ spec, (pos.line == y.1.line && pos.col == y.1.col) = true → y.2 = q) : Tab spec h' (ps ++ #[rawInt pos.line, rawInt pos.col, v]) := by
  have y := x.mono' k
  refine ⟨?_, fun z hz u hu => ?_⟩
  · rw [Array.toList_append]; exact TriplesOk_snoc _ _ _ _ y.1
  · rw [Array.toList_append] at hu
    cases hb : (pos.line == z.1.line && pos.col == z.1.col) with
    | false => rw [show (#[rawInt ↑pos.line, rawInt ↑pos.col, v] : Array Value).toList = [rawInt ↑pos.line, rawInt ↑pos.col, v] from rfl, among_new _ y.1 hb] at hu; exact y.2 z hz u hu
    | true =>
      have e : codeAmong z.1 = codeAmong pos := by
        have h1 : pos.line = z.1.line ∧ pos.col = z.1.col := by simpa using hb
        funext l
        have aux : ∀ n (l : List Value), l.length ≤ n → codeAmong z.1 l = codeAmong pos l := by
          intro n
          induction n with
          | zero => intro l hl; cases l with
            | nil => rfl
            | cons _ _ => simp at hl
          | succ n ih =>
            intro l hl
            unfold codeAmong
            rw [h1.1, h1.2]
            split
            · rename_i r
              split
              · rfl
              · exact ih _ (by simp at hl; omega)
            · rfl
        exact aux _ l (Nat.le_refl _)
      rw [e] at hu; rw [show (#[rawInt ↑pos.line, rawInt ↑pos.col, v] : Array Value).toList = [rawInt ↑pos.line, rawInt ↑pos.col, v] from rfl, codeAmong_snoc _ y.1 hn] at hu
      cases hu
      rw [hq z hz hb]; exact hv
end Mine

end
section
open PySem PySem.W PyProof.Rows PySem.Calls PySem.Spec
set_option maxRecDepth 100000
namespace Mine

/-- which def makes functions, with which table -/
def Maker (cc P : Addr) (spec : List (Pos × Str)) : Prop := (cc = 48 ∧ P = 44 ∧ spec = spec44) ∨ (cc = 55 ∧ P = 51 ∧ spec = spec51)

/-- a function object was made -/
structure Made (c : P0) (h h' : Heap) (f : Addr) (name qual : Str) (params : Arguments) (body : FuncBody) (scope : Scope) (clos : List (Str × Addr)) (dV : Value) : Prop where
  inv : Inv c h'
  ext : Ext h h'
  ge : h.objs.size ≤ f
  obj : ∃ doc cd ctv, h'.get? f = some { cls := .type "function", data := .func (kdv_fn name qual params body scope clos dV doc ((c.mg "__name__").getD .none) cd ctv) } ∧ h'.CodeRec cd qual

theorem mk_tail {c : P0} {A : Around} {E : Value → Shared → Prop} {s : Shared} {name qual : Str} {params : Arguments} {body : FuncBody} {scope : Scope} {env : Env} {cc P : Addr} {spec : List (Pos × Str)} {pos : Pos} {firstLine : Nat} {clos : List (Str × Addr)} {dV : Value} {Q : Value → Shared → Prop}
    (hM : Maker cc P spec) (I : Inv c s.heap) (hcl : closureFor scope env = pure clos) (hge0 : env.globals = mainGlobals) (hcode : env.code = .ref cc)
    (hin : (pos, qual) ∈ spec) (hq : ∀ y ∈ spec, (pos.line == y.1.line && pos.col == y.1.col) = true → y.2 = qual)
    (h : ∀ f h' tk, Made c s.heap h' f name qual params body scope clos dV → Q (.ref f) { s with heap := h', toks := tk }) :
    wpAny (MM c) A (makeTail name qual params body scope env dV .none none pos firstLine) Q E s := by
  have hps : ∃ ps, s.heap.get? P = some (tabObj ps) ∧ Tab spec s.heap ps := by
    rcases hM with ⟨_, rfl, rfl⟩ | ⟨_, rfl, rfl⟩
    · exact I.t44
    · exact I.t51
  obtain ⟨ps, hps, tps⟩ := hps
  have C : CodeHd s.heap cc P := by
    rcases hM with ⟨rfl, rfl, _⟩ | ⟨rfl, rfl, _⟩
    · exact codeHd_of_K I.X (by kernel_rfl)
    · exact codeHd_of_K I.X (by kernel_rfl)
  have hgP : mainGlobals ≠ P := by rcases hM with ⟨_, rfl, _⟩ | ⟨_, rfl, _⟩ <;> decide
  have hP2 : P = 44 ∨ P = 51 := by rcases hM with ⟨_, rfl, _⟩ | ⟨_, rfl, _⟩ <;> simp
  have grow : ∀ {h' : Heap} {ps' : Array Value}, Heap.ExtBut P s.heap h' → h'.get? P = some (tabObj ps') → Tab spec h' ps' → c.gT.objs.size ≤ h'.objs.size → Inv c h' := by
    intro h' ps' hx hP hT hz
    have kc : ∀ b o, s.heap.get? b = some o → CodeLike o → h'.get? b = some o := fun b o e hc => hx b o (fun z => by rw [z, hps] at e; cases e; exact tab_not_code tps hc) e
    have htop : ∀ b o, c.gT.get? b = some o → h'.get? b = some o := fun b o e => hx b o (by rcases hP2 with z | z <;> rw [z]; exact (gT_ne e).1; exact (gT_ne e).2) (I.top b o e)
    rcases hM with ⟨_, rfl, rfl⟩ | ⟨_, rfl, rfl⟩
    · obtain ⟨q, hq, tq⟩ := I.t51
      exact ⟨htop, hz, ⟨_, hP, hT⟩, ⟨q, hx _ _ (by decide) hq, tq.mono' kc⟩⟩
    · obtain ⟨q, hq, tq⟩ := I.t44
      exact ⟨htop, hz, ⟨q, hx _ _ (by decide) hq, tq.mono' kc⟩, ⟨_, hP, hT⟩⟩
  obtain ⟨bm, ob, b1, b2, b3, b4, b5, b6⟩ := I.T.bmain
  have hbP : bm ≠ P := fun q => by rw [q, hps] at b3; cases b3; cases b4
  have hbG : bm ≠ mainGlobals := fun q => by
    obtain ⟨o, es, ep, e, hd, _⟩ := I.T.g
    rw [q, e] at b3; cases b3; rw [hd] at b6; cases b6
  cases hf : codeAmong pos ps.toList with
  | none =>
    refine kdv_makeTail (mg := c.mg) hcl hge0 I.T.g hcode C hps tps.1 hf hgP ⟨bm, ob, b1, b2, hbG, hbP, b3, b4, b5, b6⟩ fun c' ctv doc h' tk hx hge hlt hrec htb => ?_
    have kc : ∀ b o, s.heap.get? b = some o → CodeLike o → h'.get? b = some o := fun b o e hc => hx b o (fun z => by rw [z, hps] at e; cases e; exact tab_not_code tps hc) e
    have I' : Inv c h' := grow hx htb (tps.add kc hf hrec hq) (Nat.le_trans I.size (Nat.le_trans hge (Nat.le_of_lt hlt)))
    refine h _ _ _ ⟨I'.keeps (fun b o e => Heap.get?_push_of_some _ e) (Nat.le_trans I'.size (by rw [Heap.size_push]; exact Nat.le_succ _)), fun b o e n1 n2 => Heap.get?_push_of_some _ (hx b o (by rcases hP2 with z | z <;> rw [z] <;> assumption) e), Nat.le_trans hge (Nat.le_of_lt hlt), doc, _, ctv, Heap.get?_push_size _ rfl, ?_⟩
    obtain ⟨a1, a2, a3, a4, a5, a6, a7⟩ := hrec
    exact ⟨a1, a2, a3, a4, a5, Heap.get?_push_of_some _ a6, a7⟩
  | some cv =>
    have hrec := tps.2 _ hin _ hf
    refine kdv_makeTailHit (mg := c.mg) hcl hge0 I.T.g hcode C hps tps.1 hf ⟨bm, ob, b1, b2, hbG, hbP, b3, b4, b5, b6⟩ fun ctv doc h' tk hk hsz => ?_
    refine h _ _ _ ⟨I.keeps (fun b o e => Heap.get?_push_of_some _ (hk b o e)) (Nat.le_trans I.size (by rw [Heap.size_push]; exact Nat.le_succ_of_le hsz)), fun b o e _ _ => Heap.get?_push_of_some _ (hk b o e), hsz, doc, _, ctv, Heap.get?_push_size _ rfl, ?_⟩
    obtain ⟨a1, a2, a3, a4, a5, a6, a7⟩ := hrec
    exact ⟨a1, a2, a3, a4, a5, Heap.get?_push_of_some _ (hk _ _ a6), a7⟩

theorem mk_fn {c : P0} {A : Around} {E : Value → Shared → Prop} {s : Shared} {name qual0 qual : Str} {params : Arguments} {body : FuncBody} {scope : Scope} {env : Env} {cc P : Addr} {spec : List (Pos × Str)} {pos : Pos} {firstLine : Nat} {clos : List (Str × Addr)} {Q : Value → Shared → Prop}
    (hqe : qual0 = qual) (hM : Maker cc P spec) (I : Inv c s.heap) (hcl : closureFor scope env = pure clos) (hge0 : env.globals = mainGlobals) (hcode : env.code = .ref cc)
    (hin : (pos, qual) ∈ spec) (hq : ∀ y ∈ spec, (pos.line == y.1.line && pos.col == y.1.col) = true → y.2 = qual)
    (h : ∀ f h' tk, Made c s.heap h' f name qual params body scope clos .none → Q (.ref f) { s with heap := h', toks := tk }) :
    wpAny (MM c) A (makeFunction name qual0 params body scope env [] [] [] pos firstLine) Q E s := by
  subst hqe
  rw [makeFunction_eq]
  simp only [List.zip_nil_right, List.filterMap_nil, List.isEmpty_nil, if_true, pure_bind]
  exact mk_tail hM I hcl hge0 hcode hin hq h

theorem mk_fnD {c : P0} {A : Around} {E : Value → Shared → Prop} {s : Shared} {name qual0 qual : Str} {params : Arguments} {body : FuncBody} {scope : Scope} {env : Env} {cc P : Addr} {spec : List (Pos × Str)} {pos : Pos} {firstLine : Nat} {clos : List (Str × Addr)} {Q : Value → Shared → Prop} {v : Value}
    (hqe : qual0 = qual) (hM : Maker cc P spec) (I : Inv c s.heap) (hcl : closureFor scope env = pure clos) (hge0 : env.globals = mainGlobals) (hcode : env.code = .ref cc)
    (hin : (pos, qual) ∈ spec) (hq : ∀ y ∈ spec, (pos.line == y.1.line && pos.col == y.1.col) = true → y.2 = qual)
    (h : ∀ f t h' tk, Made c s.heap h' f name qual params body scope clos (.ref t) → s.heap.objs.size ≤ t → h'.get? t = some (kdv_tup [v]) → Q (.ref f) { s with heap := h', toks := tk }) :
    wpAny (MM c) A (makeFunction name qual0 params body scope env [v] [] [] pos firstLine) Q E s := by
  subst hqe
  rw [makeFunction_eq]
  simp only [List.zip_nil_right, List.filterMap_nil, List.isEmpty_nil, if_true, pure_bind, List.isEmpty_cons, Bool.false_eq_true, if_false]
  refine wpAny_bind (wpAny_newTextTuple ?_)
  have hk : ∀ b o, s.heap.get? b = some o → (s.heap.push (kdv_tup [v])).get? b = some o := fun b o e => Heap.get?_push_of_some _ e
  have I1 : Inv c (s.heap.push (kdv_tup [v])) := I.keeps hk (Nat.le_trans I.size (by rw [Heap.size_push]; exact Nat.le_succ _))
  have hlt : 51 < s.heap.objs.size := Nat.lt_of_lt_of_le c.lt I.size
  refine mk_tail (s := { s with heap := s.heap.push (kdv_tup [v]) }) hM I1 hcl hge0 hcode hin hq fun f h' tk M => ?_
  have e1 : (s.heap.push (kdv_tup [v])).get? s.heap.objs.size = some (kdv_tup [v]) := Heap.get?_push_size _ rfl
  refine h f s.heap.objs.size h' tk ⟨M.inv, fun b o e n1 n2 => M.ext b o (hk b o e) n1 n2, Nat.le_trans (by rw [Heap.size_push]; exact Nat.le_succ _) M.ge, M.obj⟩ (Nat.le_refl _) (M.ext _ _ e1 (Nat.ne_of_gt (Nat.lt_trans (by decide) hlt)) (Nat.ne_of_gt hlt))
end Mine

end
section
open PySem PySem.W PyProof.Rows PySem.Calls PySem.Spec
set_option maxRecDepth 100000
namespace Mine
theorem Made.after {c : P0} {s : Shared} {h' : Heap} {tk : Nat} {f : Addr} {name qual : Str} {params : Arguments} {body : FuncBody} {scope : Scope} {clos : List (Str × Addr)} {dV : Value} (M : Made c s.heap h' f name qual params body scope clos dV) :
    After c s { s with heap := h', toks := tk } := ⟨M.ext, M.inv, fun _ _ e => e, fun e => e, rfl⟩

theorem q_hit : Str.ofString "_law_hit" ++ ".<locals>." ++ Str.ofString "<lambda>" = qHit := by decide +kernel
theorem not_code_cell {o : Obj} {v : Option Value} (h : o.data = .cell v) : ¬ CodeLike o := by
  rintro ⟨vs, q, t, hd, _⟩; rw [h] at hd; cases hd
theorem not_code_func {o : Obj} {fd : FuncData} (h : o.data = .func fd) : ¬ CodeLike o := by
  rintro ⟨vs, q, t, hd, _⟩; rw [h] at hd; cases hd

theorem Fn.fresh {c : P0} {h g : Heap} {L : Addr} (Z : Fn c h g L) {h1 : Heap} {m : Str → Option Value} (F : Fr g L h1 m) {b : Addr} (hb : L < b) : b ≠ L ∧ g.get? b = none ∧ b ≠ 44 ∧ b ≠ 51 := by
  have hl : 51 < b := Nat.lt_of_lt_of_le c.lt (Nat.le_trans Z.tl (Nat.le_of_lt hb))
  exact ⟨Nat.ne_of_gt hb, Heap.get?_none_of_le (Nat.le_trans F.above (Nat.le_of_lt hb)), Nat.ne_of_gt (Nat.lt_trans (by decide) hl), Nat.ne_of_gt hl⟩

theorem after_new {c : P0} {h₀ g : Heap} {L : Addr} {s₁ s₂ : Shared} {m : Str → Option Value} {news : List (Addr × Obj)} (own : List (Addr × Obj)) {f : Addr} {fo : Obj} (Z : Fn c h₀ g L) (F : Fr g L s₁.heap m) (N : News g L s₁.heap news)
    (ho : ∀ x ∈ own, x ∈ news ∧ x.1 ≠ 44 ∧ x.1 ≠ 51 ∧ ¬ CodeLike x.2) (a : After c s₁ s₂) (hf : s₂.heap.get? f = some fo) (hL : L < f) (hn : ¬ CodeLike fo) :
    Fr g L s₂.heap m ∧ ∃ p q fz, News g L s₂.heap ((f, fo) :: own ++ (44, tabObj p) :: (51, tabObj q) :: fz) ∧ Pt g L ((f, fo) :: own) s₂.heap p q fz := by
  have F' := fr_after Z F a
  have hf0 := Z.fresh F hL
  refine ⟨F', renew Z F' (fun x hx => ?_) (fun x hx => ?_) a.inv⟩
  · rcases List.mem_cons.mp hx with rfl | hx
    · exact ⟨hf, hf0.1, hf0.2.1⟩
    · have n := N x (ho x hx).1
      exact ⟨a.ext _ _ n.1 (ho x hx).2.1 (ho x hx).2.2.1, n.2⟩
  · rcases List.mem_cons.mp hx with rfl | hx
    · exact ⟨hf0.2.2.1, hf0.2.2.2, hn⟩
    · exact (ho x hx).2


theorem nameX_g {M : Model} {A : Around} {E : Value → Shared → Prop} {s : Shared} {g : Heap} {L a : Addr} {m : Str → Option Value} {cn : Str} {cs : Scope} {ccd : Value} {cl : List (Str × Addr)} {x : Str} {pos : Pos} {v : Value} {Q : Value → Shared → Prop} {c : Addr} {o : Obj}
    (F : Fr g L s.heap m) (hc : cl.lookup x = some c) (hg : g.get? c = some o) (hd : o.data = .cell (some v)) (h : Q v s)
    (hk : cs.kind = .function := by rfl) (hx : (envX cn cs L a ccd cl).kindOf x = some .free := by rfl) (hb : (x == ("__debug__" : Str)) = false := by decide) (hn : (x == ("__classdict__" : Str)) = false := by decide) :
    wpAny M A (eval (.Name x pos) (envX cn cs L a ccd cl)) Q E s := wpAny_Name (wpAny_loadName_free hk hx hc ⟨o, F.keep _ _ hg, hd⟩ h hn) hb

theorem enterE {c : P0} {A : Around} {s : Shared}
    {R : Result → Shared → Prop} {name qual : Str} {params : Arguments} {body : Expr} {scope : Scope} {clos : List (Str × Addr)} {dV doc pm cdv ct : Value} {od : Option Addr} {osl : Array (Option Value)} {f : Addr} {args : Args} {binds : List (Str × Value)}
    (I : Inv c s.heap)
    (ho : s.heap.get? f = some ⟨.type "function", od, .func (kdv_fn name qual params (.expr body) scope clos dV doc pm cdv ct), osl⟩) (hcd : s.heap.CodeRec cdv qual) (hroom : A.depth < recursionLimit)
    (hbind : BindsTo s (kdv_fn name qual params (.expr body) scope clos dV doc pm cdv ct) args binds) (hloc : ∀ y ∈ binds, scope.names.lookup y.1 = some .local)
    (h : ∀ g L h₁ p q fz AA, (∀ d, Rm A (d + 1) → Rm AA d) → Fn c s.heap g L → Fr g L h₁ (fun y => binds.reverse.lookup y) → News g L h₁ ((44, tabObj p) :: (51, tabObj q) :: fz) → Pt g L [] h₁ p q fz → Ext s.heap h₁ →
      (hd.heap_39 c.w.params).In g → Top topProg c.loose c.mean c.mg c.mb g →
      wpAny (MM c) AA (eval body (envX qual scope L f cdv clos))
        (fun v s' => R (.ok (.ret v)) s') (fun _ _ => False)
        { s with heap := h₁, toks := s.toks + binds.length })
    (hco : scope.isCoroutine = false) (hgen : scope.isGenerator = false) (hk : scope.kind = .function)
    (hcell : ∀ x ∈ scope.names, x.2 ≠ .cell) : codeAny (MM c) A (.call (.ref f) args) R s := by
  refine kla_callFunE hroom ho rfl hco hgen rfl hcd (hbind _ _ _ _ ?_)
  refine wpAny_newFunctionEnv hcell hloc (fun h₁ hns hsb => ⟨(I.T.nolimit).fresh _ hsb, ?_⟩) hk
  show codeAny _ _ (.expr body (envX qual scope s.heap.objs.size f cdv clos)) _ _
  have hk₁ : ∀ b o, s.heap.get? b = some o → h₁.get? b = some o := fun b o e => hsb.extBut b o (Nat.ne_of_lt (Heap.lt_size e)) (Heap.get?_push_of_some _ e)
  have Z := Fn.start I
  have F : Fr (gh s.heap) s.heap.objs.size h₁ (fun y => binds.reverse.lookup y) := ⟨hns, fun b o e => hk₁ b o (of_gh e), Nat.le_of_eq gh_size⟩
  have I₁ : Inv c h₁ := by
    obtain ⟨p, hp, tp⟩ := I.t44
    obtain ⟨q, hq, tq⟩ := I.t51
    exact inv_fr Z F (hk₁ _ _ hp) (hk₁ _ _ hq) (tp.mono hk₁) (tq.mono hk₁)
  obtain ⟨p, q, fz, N, P⟩ := renew Z F (own := []) News.nil (fun _ hx => by cases hx) I₁
  exact kla_codeExpr (wpAny_mono (h _ _ h₁ p q fz _ (fun _ r => r.deeper _) Z F N P (fun b o e _ _ => hk₁ b o e) Z.X Z.T) (fun _ _ x => x) (fun _ _ x => x.elim))

theorem enterX {c : P0} {A : Around} {s : Shared}
    {R : Result → Shared → Prop} {name qual : Str} {params : Arguments} {body : List Stmt} {scope : Scope} {clos : List (Str × Addr)} {dV doc pm cdv ct : Value} {od : Option Addr} {osl : Array (Option Value)} {f : Addr} {args : Args} {binds : List (Str × Value)}
    (I : Inv c s.heap)
    (ho : s.heap.get? f = some ⟨.type "function", od, .func (kdv_fn name qual params (.stmts body) scope clos dV doc pm cdv ct), osl⟩) (hcd : s.heap.CodeRec cdv qual) (hroom : A.depth < recursionLimit)
    (hbind : BindsTo s (kdv_fn name qual params (.stmts body) scope clos dV doc pm cdv ct) args binds) (hloc : ∀ y ∈ binds, scope.names.lookup y.1 = some .local)
    (h : ∀ g L h₁ p q fz AA, (∀ d, Rm A (d + 1) → Rm AA d) → Fn c s.heap g L → Fr g L h₁ (fun y => binds.reverse.lookup y) → News g L h₁ ((44, tabObj p) :: (51, tabObj q) :: fz) → Pt g L [] h₁ p q fz → Ext s.heap h₁ →
      (hd.heap_39 c.w.params).In g → Top topProg c.loose c.mean c.mg c.mb g →
      wpAny (MM c) AA (execs body (envX qual scope L f cdv clos))
        (fun fl s' => R (.ok (.ret (match fl with | .ret v => v | _ => .none))) s') (fun _ _ => False)
        { s with heap := h₁, toks := s.toks + binds.length })
    (hco : scope.isCoroutine = false) (hgen : scope.isGenerator = false) (hk : scope.kind = .function)
    (hcell : ∀ x ∈ scope.names, x.2 ≠ .cell) : codeAny (MM c) A (.call (.ref f) args) R s := by
  refine codeAny_call_function (fd := kdv_fn name qual params (.stmts body) scope clos dV doc pm cdv ct) hroom ho rfl hco hgen rfl hcd (hbind _ _ _ _ ?_)
  refine wpAny_newFunctionEnv hcell hloc (fun h₁ hns hsb => ⟨(I.T.nolimit).fresh _ hsb, codeAny_func ?_⟩) hk
  have hk₁ : ∀ b o, s.heap.get? b = some o → h₁.get? b = some o := fun b o e => hsb.extBut b o (Nat.ne_of_lt (Heap.lt_size e)) (Heap.get?_push_of_some _ e)
  have Z := Fn.start I
  have F : Fr (gh s.heap) s.heap.objs.size h₁ (fun y => binds.reverse.lookup y) := ⟨hns, fun b o e => hk₁ b o (of_gh e), Nat.le_of_eq gh_size⟩
  have I₁ : Inv c h₁ := by
    obtain ⟨p, hp, tp⟩ := I.t44
    obtain ⟨q, hq, tq⟩ := I.t51
    exact inv_fr Z F (hk₁ _ _ hp) (hk₁ _ _ hq) (tp.mono hk₁) (tq.mono hk₁)
  obtain ⟨p, q, fz, N, P⟩ := renew Z F (own := []) News.nil (fun _ hx => by cases hx) I₁
  exact wpAny_mono (h _ _ h₁ p q fz _ (fun _ r => r.deeper _) Z F N P (fun b o e _ _ => hk₁ b o e) Z.X Z.T) (fun _ _ x => x) (fun _ _ x => x.elim)
end Mine

end
section
open PySem PySem.W PyProof.Rows PySem.Calls PySem.Spec
namespace Mine
theorem fillE5 : ∀ (w : World) (h : Heap), (hd.heap_39 w.params).In h → model PySem.Challenge.rw_ph0043_01.prog w = model PySem.Challenge.rw_ph0043_01.prog w := by
  k_fill
  intro w h _; rfl

abbrev pairObj (i j : Int) (t u : Tok) : Obj := { cls := .type "tuple", data := .seq #[.int i t, .int j u] }
structure PairAt (spot : Int) (s : Shared) (v : Value) (s' : Shared) : Prop where
  ex : ∃ t ti tj, v = .ref t ∧ s.heap.get? t = none ∧ s'.heap.get? t = some (pairObj spot (spot + 1) ti tj)

structure HitAt (c : P0) (lo : Nat) (h : Heap) (f : Addr) (spot : Int) : Prop where
  base : c.gT.objs.size ≤ lo
  obj : ∃ fd sl d md f2, h.get? f = some ⟨.type "function", some d, .func fd, sl⟩ ∧ h.Ns d md ∧ md (Str.ofString "span") = some (.ref f2) ∧ lo ≤ f ∧ lo ≤ d ∧ lo ≤ f2 ∧ FnAt f2 h ∧
     ∀ A s', Inv c s'.heap → Stable lo h s'.heap → Rm A 2 → Calls c A (.ref f2) [] s' (PairAt spot s')
theorem HitAt.stable {c : P0} {lo : Nat} {h h' : Heap} {f : Addr} {spot : Int} (x : HitAt c lo h f spot) (st : Stable lo h h') : HitAt c lo h' f spot := by
  obtain ⟨fd, sl, d, md, f2, a1, a2, a3, a4, a5, a7, ⟨x1, x2, x3, x4, x5⟩, a6⟩ := x.obj
  exact ⟨x.base, fd, sl, d, md, f2, st _ _ a1 (.inl a4), a2.at fun o e => st _ _ e (.inl a5), a3, a4, a5, a7, ⟨x1, x2, x3, x4, st _ _ x5 (.inl a7)⟩, fun A s' I S r => a6 A s' I (st.trans S) r⟩
theorem HitAt.le {c : P0} {lo lo' : Nat} {h : Heap} {f : Addr} {spot : Int} (x : HitAt c lo h f spot) (hl : lo' ≤ lo) (hg : c.gT.objs.size ≤ lo') : HitAt c lo' h f spot := by
  obtain ⟨fd, sl, d, md, f2, a1, a2, a3, a4, a5, a7, ⟨x1, x2, x3, x4, x5⟩, a6⟩ := x.obj
  exact ⟨hg, fd, sl, d, md, f2, a1, a2, a3, Nat.le_trans hl a4, Nat.le_trans hl a5, Nat.le_trans hl a7, ⟨x1, x2, x3, x4, x5⟩, fun A s' I S r => a6 A s' I (fun b o e q => S b o e (q.imp_left fun z => Nat.le_trans hl z)) r⟩

structure IsHit (c : P0) (lo : Nat) (spot : Int) (v : Value) (s : Shared) : Prop where
  ex : ∃ f, v = .ref f ∧ HitAt c lo s.heap f spot

set_option maxRecDepth 100000 in
set_option maxHeartbeats 4000000 in
theorem hit_spec : ∀ (c : P0) (A : Around) (s : Shared) (n : Int) (tk0 : Tok), Inv c s.heap → Rm A 5 →
    Calls c A (.ref 49) [.int n tk0] s (IsHit c s.heap.objs.size n) := by
  k_with_none
  k_with "m_inv" => exact Pt.inv (by assumption) (by assumption) (by k_asm) (by k_asm) (by walk_at "m_fz") (by walk_at "m_tab") (by walk_at "m_tab")
  k_with "eval Name" => (k_here; k_dflt (refine' nameX_g ?zqF ?zqc ?zqg ?zqd ?_ ?zqa ?zqb; (case zqa => rfl); (case zqb => rfl); (case zqF => k_asm); (case zqc => rfl); (case zqg => assumption); (case zqd => assumption); k_whole))
  intro c A s n tk0 I hA R hR
  refine' enterC (binds := [(Str.ofString "spot", .int n tk0)]) I ?k1 ?k2 hA.lt ?k4 ?k5 ?k6 ?_ ?c2 ?c3 ?c4
  case k1 => k_is
  case k2 => k_is
  case k4 => exact BindsTo.of_eq rfl
  case k5 => exact rfl
  case k6 => decide +kernel
  case c2 => exact rfl
  case c3 => exact rfl
  case c4 => exact rfl
  intro g L h₁ tk1 cells AA hAA Z F N hC I1 X T
  have hA1 := hAA 4 hA
  replace F : Fr g L h₁ (fun _ => none) := F
  obtain ⟨o', rfl, d1'⟩ := CellsAre.one hC
  clear hC
  replace d1' : o'.data = .cell (some (.int n tk0)) := d1'
  have hnc := not_code_cell d1'
  have hL1 := Z.fresh F (Nat.lt_succ_self L)
  obtain ⟨p, q, fz, N1, P1⟩ := renew Z F N (by intro x hx; cases List.mem_singleton.mp hx; exact ⟨hL1.2.2.1, hL1.2.2.2, hnc⟩) I1
  clear N
  show wpAny _ _ _ _ _ _
  k_fold
  k_steps
  refine kla_eval rfl ?_
  refine mk_fn (clos := []) (qual := qHit) q_hit (.inl ⟨rfl, rfl, rfl⟩) (by walk_at "m_inv") rfl rfl rfl (by decide +kernel) (by decide +kernel) fun f h2 tk2 M2 => ?_
  have a2 := M2.after (s := { s with heap := h₁, toks := tk1 }) (tk := tk2)
  obtain ⟨fd, hf⟩ : ∃ fd, h2.get? f = some ⟨.type "function", none, .func fd, #[]⟩ := let ⟨_, _, _, hf, _⟩ := M2.obj; ⟨_, hf⟩
  have hLf : L < f := Nat.lt_of_lt_of_le F.ns.lt M2.ge
  obtain ⟨F2, p2, q2, fz2, N2, P2⟩ := after_new [(L + 1, o')] Z F N1 (by intro x hx; cases List.mem_singleton.mp hx; exact ⟨by simp, hL1.2.2.1, hL1.2.2.2, hnc⟩) a2 hf hLf (not_code_func rfl)
  clear N1 P1 F M2 a2 hf
  dsimp only at F2 N2 P2
  show wpAny _ _ _ _ _ _
  k_fold
  k_steps
  rename Fr _ _ _ _ => F3
  rename News _ _ _ _ => N3
  rename_i h3
  refine kla_eval rfl ?_
  refine mk_fn (clos := [(Str.ofString "spot", L + 1)]) (qual := qHit) q_hit (.inl ⟨rfl, rfl, rfl⟩) (by walk_at "m_inv") rfl rfl rfl (by decide +kernel) (by decide +kernel) fun f2 h4 tk4 M4 => ?_
  have a4 := M4.after (s := { s with heap := h3, toks := tk }) (tk := tk4)
  have hL3 : L < f2 := Nat.lt_of_lt_of_le F3.ns.lt M4.ge
  have hf0 := Z.fresh F3 hLf
  have hc4 : h4.get? (L + 1) = some o' := M4.ext _ _ (N3 (L + 1, o') (by simp)).1 hL1.2.2.1 hL1.2.2.2
  have hfne : f2 ≠ f := fun z => by
    have h6 : f < h3.objs.size := Heap.lt_size (N3 (f, _) (List.mem_cons_self ..)).1
    exact absurd M4.ge (Nat.not_le.mpr (z ▸ h6))
  obtain ⟨x1, x2, x3, x4, x5⟩ : FnAt f2 h4 := let ⟨_, _, _, e, _⟩ := M4.obj; ⟨_, _, _, _, e⟩
  have hspan : ∀ h5 : Heap, (∀ b o, b ≠ f → h4.get? b = some o → h5.get? b = some o) → ∀ A s', Inv c s'.heap → Stable s.heap.objs.size h5 s'.heap → Rm A 2 → Calls c A (.ref f2) [] s' (PairAt n s') := by
    obtain ⟨doc, cd, ctv, hf2, hcr⟩ := M4.obj
    intro h5 k5 A s' I' S r R hR
    have e2 := S _ _ (k5 _ _ hfne hf2) (.inl (Nat.le_trans Z.le (Nat.le_of_lt hL3)))
    have ec := S _ _ (k5 _ _ (fun z => by
      have h7 := (N3 (L + 1, o') (by simp)).1
      have h8 := (N3 (f, _) (List.mem_cons_self ..)).1
      rw [z, h8] at h7; cases h7; cases d1') hc4) (.inl (Nat.le_trans Z.le (Nat.le_succ _)))
    have hcr' : s'.heap.CodeRec cd qHit := by
      obtain ⟨x1, x2, x3, x4, x5, x6, x7, x8⟩ := hcr
      refine ⟨x1, x2, x3, x4, x5, S _ _ (k5 _ _ (fun z => ?_) x6) (.inr ⟨x3, _, x4, x7, x8⟩), x7, x8⟩
      have h8 := M4.ext _ _ (N3 (f, _) (List.mem_cons_self ..)).1 hf0.2.2.1 hf0.2.2.2
      rw [z] at x6; rw [x6] at h8; cases h8; cases x7
    refine' enterE (binds := []) I' e2 hcr' r.lt ?k4 ?k5 ?_ ?c2 ?c3 ?c4 ?c5
    case k4 => exact BindsTo.of_eq rfl
    case k5 => exact locs rfl
    case c2 => exact rfl
    case c3 => exact rfl
    case c4 => exact rfl
    case c5 => decide
    clear P2 F3 N3
    intro g L' h₁ p q fz AA hAA Z F N P ext X T
    have hA1 := hAA 1 r
    have hg := Z.old _ _ ec hL1.2.2.1 hL1.2.2.2
    show wpAny _ _ _ _ _ _
    k_fold
    k_steps
    rename Fr _ _ _ _ => F5
    rename News _ _ _ _ => N5
    have n5 := N5 _ (List.mem_cons_self ..)
    refine hR _ _ (fin0 Z F5 (by walk_at "m_inv")) ⟨_, _, _, rfl, ?_, n5.1⟩
    rename_i l1
    cases q : s'.heap.get? _ with
    | none => rfl
    | some o => have := Z.old _ _ q (Nat.ne_of_gt l1.1) (Nat.ne_of_gt l1.2.1); rw [n5.2.2] at this; cases this
  obtain ⟨F4, p4, q4, fz4, N4, P4⟩ := after_step [(f, ⟨.type "function", none, .func fd, #[]⟩), (L + 1, o')] Z F3 N3 (by
    intro x hx
    rcases List.mem_cons.mp hx with rfl | hx
    · exact ⟨by simp, hf0.2.2.1, hf0.2.2.2, not_code_func rfl⟩
    · cases List.mem_singleton.mp hx; exact ⟨by simp, hL1.2.2.1, hL1.2.2.2, hnc⟩) a4
  dsimp only at F4 N4 P4
  clear N3 P2 F3 a4 M4
  show wpAny _ _ _ _ _ _
  k_fold
  k_steps
  rename Fr _ _ _ _ => F5
  rename News _ _ _ _ => N5
  refine fn_setAttr (N5 (f, _) (List.mem_cons_self ..)).1 f_span fun h6 tk6 e6 n6 k6 => ?_
  dsimp only at e6 n6 k6
  have I4 : Inv c h4 := by walk_at "m_inv"
  have hf4 := (N5 (f, _) (List.mem_cons_self ..)).1
  have I6 : Inv c h6 := I4.but (fun b => b = f) (fun b o e hb => k6 b o hb e) (fun b hb => by rw [hb]; exact Nat.le_trans Z.tl (Nat.le_of_lt hLf)) (fun b o hb e hc => by
    rw [hb, hf4] at e; cases e; exact not_code_func rfl hc) (Nat.le_trans I4.size (Nat.le_of_lt n6.lt))
  have F6 : Fr g L h6 _ := ⟨F5.ns.at fun o e => k6 _ _ (Ne.symm hf0.1) e, fun b o e => k6 b o (fun z => by rw [z, hf0.2.1] at e; cases e) (F5.keep b o e), F5.above⟩
  obtain ⟨p6, q6, fz6, N6, P6⟩ := renew Z F6 (own := []) News.nil (fun _ hx => by cases hx) I6
  have hs4 : s.heap.objs.size ≤ h4.objs.size := Nat.le_trans Z.le (Nat.le_of_lt F5.ns.lt)
  have H6 : HitAt c s.heap.objs.size h6 f n := ⟨I.size, fd, #[], h4.objs.size, _, f2, e6, n6, if_pos rfl, Nat.le_trans Z.le (Nat.le_of_lt hLf), hs4, Nat.le_trans Z.le (Nat.le_of_lt hL3), ⟨x1, x2, x3, x4, k6 _ _ hfne x5⟩, fun A' s' I' S r => hspan h6 (fun b o hb e => k6 b o hb e) A' s' I' S r⟩
  clear N5 F5 P4 hspan
  show wpAny _ _ _ _ _ _
  k_steps
  exact hR _ _ (fin0 Z (by k_asm) (by walk_at "m_inv")) ⟨f, rfl, H6⟩
end Mine

end
section
open PySem PySem.W PyProof.Rows PySem.Calls PySem.Spec
namespace Mine
theorem fillE6 : ∀ (w : World) (h : Heap), (hd.heap_39 w.params).In h → model PySem.Challenge.rw_ph0043_01.prog w = model PySem.Challenge.rw_ph0043_01.prog w := by
  k_fill
  intro w h _; rfl

def hitOk (l : List Nat) (pos : Nat) : Bool := balU ((unitsE 0 false (l.take pos)).map (·.2)) 0
def findU (l : List Nat) (sign : Str) (place : Int) : List (Nat × Str) → Option Nat
  | [] => none
  | (p, u) :: r => if place ≤ p ∧ u = sign ∧ hitOk l p = true then some p else findU l sign place r

theorem unit_prefix : ∀ (l : List Nat) (i : Nat) (e : Bool) (pos d : Nat), (pos, (⟨#[d]⟩ : Str)) ∈ unitsE i e l → i ≤ pos ∧ endEsc e (l.take (pos - i)) = false
  | [], _, _, _, _, h => by cases h
  | a :: r, i, true, pos, d, h => by
    rw [unitsE] at h
    rcases List.mem_cons.mp h with h | h
    · cases h
    · obtain ⟨h1, h2⟩ := unit_prefix r (i + 1) false pos d h
      refine ⟨by omega, ?_⟩
      rw [show pos - i = pos - (i + 1) + 1 by omega, List.take_succ_cons, endEsc]; exact h2
  | a :: r, i, false, pos, d, h => by
    rw [unitsE] at h
    split at h
    · rename_i ha
      obtain ⟨h1, h2⟩ := unit_prefix r (i + 1) true pos d h
      refine ⟨by omega, ?_⟩
      rw [show pos - i = pos - (i + 1) + 1 by omega, List.take_succ_cons, endEsc, ha]; exact h2
    · rename_i ha
      rcases List.mem_cons.mp h with h | h
      · have : pos = i := congrArg Prod.fst h
        subst this
        exact ⟨Nat.le_refl _, by rw [Nat.sub_self]; rfl⟩
      · obtain ⟨h1, h2⟩ := unit_prefix r (i + 1) false pos d h
        refine ⟨by omega, ?_⟩
        rw [show pos - i = pos - (i + 1) + 1 by omega, List.take_succ_cons, endEsc, show (a == 92) = false by simpa using ha]; exact h2
theorem unit_lt : ∀ (l : List Nat) (i : Nat) (e : Bool) (pos : Nat) (u : Str), (pos, u) ∈ unitsE i e l → pos < i + l.length
  | [], _, _, _, _, h => by cases h
  | a :: r, i, true, pos, u, h => by
    rw [unitsE] at h
    rcases List.mem_cons.mp h with h | h
    · cases h; simp
    · have := unit_lt r (i + 1) false pos u h; simp; omega
  | a :: r, i, false, pos, u, h => by
    rw [unitsE] at h
    split at h
    · have := unit_lt r (i + 1) true pos u h; simp; omega
    · rcases List.mem_cons.mp h with h | h
      · cases h; simp
      · have := unit_lt r (i + 1) false pos u h; simp; omega

structure TextOk (x : Str) : Prop where
  noq : ∀ y ∈ x.cps.toList, y ≠ 34
  asc : x.cps.all (· < 128) = true
  fin : endEsc false x.cps.toList = false
  sz : x.length ≤ sizeLine
theorem TextOk.take {x : Str} (t : TextOk x) {pos d : Nat} (h : (pos, (⟨#[d]⟩ : Str)) ∈ unitsE 0 false x.cps.toList) : TextOk ⟨(x.cps.toList.take pos).toArray⟩ := by
  refine ⟨fun y hy => t.noq y (List.mem_of_mem_take (by simpa using hy)), ?_, ?_, ?_⟩
  · have := t.asc
    rw [Array.all_eq_true_iff_forall_mem] at this ⊢
    intro y hy
    exact this y (Array.mem_toList_iff.mp (List.mem_of_mem_take (by simpa using hy)))
  · have := (unit_prefix _ _ _ _ _ h).2
    simpa using this
  · refine Nat.le_trans ?_ t.sz
    show (x.cps.toList.take pos).toArray.size ≤ x.cps.size
    simp; omega
theorem slice_take {x : Str} {n : Nat} (h : n ≤ x.cps.toList.length) : Txt.slice x none (some (n : Int)) = ⟨(x.cps.toList.take n).toArray⟩ := by
  have := eq_of_beq (slice_closes_to (x := x) (j := n) ⟨by omega, by exact_mod_cast h⟩)
  simpa using this

structure SearchIs (c : P0) (lo : Nat) (x sign : Str) (place : Int) (v : Value) (s : Shared) : Prop where
  ex : match findU x.cps.toList sign place (unitsE 0 false x.cps.toList) with
    | none => v = .none
    | some p => ∃ f, v = .ref f ∧ HitAt c lo s.heap f p

structure FinderAt (c : P0) (lo : Nat) (h : Heap) (f : Addr) (sign : Str) : Prop where
  base : c.gT.objs.size ≤ lo
  obj : ∃ fd sl d md f2, h.get? f = some ⟨.type "function", some d, .func fd, sl⟩ ∧ h.Ns d md ∧ md (Str.ofString "search") = some (.ref f2) ∧ lo ≤ f ∧ lo ≤ d ∧ lo ≤ f2 ∧ FnAt f2 h ∧
     ∀ A s', Inv c s'.heap → Stable lo h s'.heap → Rm A 8 → ∀ x tk, TextOk x → Calls c A (.ref f2) [.str x tk] s' (SearchIs c s'.heap.objs.size x sign 0) ∧
       ∀ j tj, Calls c A (.ref f2) [.str x tk, .int j tj] s' (SearchIs c s'.heap.objs.size x sign j)
theorem FinderAt.stable {c : P0} {lo : Nat} {h h' : Heap} {f : Addr} {sign : Str} (x : FinderAt c lo h f sign) (st : Stable lo h h') : FinderAt c lo h' f sign := by
  obtain ⟨fd, sl, d, md, f2, a1, a2, a3, a4, a5, a7, ⟨x1, x2, x3, x4, x5⟩, a6⟩ := x.obj
  exact ⟨x.base, fd, sl, d, md, f2, st _ _ a1 (.inl a4), a2.at fun o e => st _ _ e (.inl a5), a3, a4, a5, a7, ⟨x1, x2, x3, x4, st _ _ x5 (.inl a7)⟩, fun A s' I S r => a6 A s' I (st.trans S) r⟩
structure IsFinder (c : P0) (lo : Nat) (sign : Str) (v : Value) (s : Shared) : Prop where
  ex : ∃ f, v = .ref f ∧ FinderAt c lo s.heap f sign
theorem q_search : Str.ofString "_law_finder" ++ ".<locals>." ++ Str.ofString "_law_search" = qSearch := by decide +kernel
theorem q_find : Str.ofString "_law_finder" ++ ".<locals>." ++ Str.ofString "<lambda>" = qFind := by decide +kernel

set_option maxRecDepth 100000 in
set_option maxHeartbeats 4000000 in
theorem finder_spec : ∀ (c : P0) (A : Around) (s : Shared) (sign : Str) (tk0 : Tok), Inv c s.heap → Rm A 5 → (∃ d, sign = ⟨#[d]⟩) →
    Calls c A (.ref 56) [.str sign tk0] s (IsFinder c s.heap.objs.size sign) := by
  k_with_none
  k_with "m_inv" => exact Pt.inv (by assumption) (by assumption) (by k_asm) (by k_asm) (by walk_at "m_fz") (by walk_at "m_tab") (by walk_at "m_tab")
  k_with "eval Name" => (k_here; k_dflt (refine' nameX_g ?zqF ?zqc ?zqg ?zqd ?_ ?zqa ?zqb; (case zqa => rfl); (case zqb => rfl); (case zqF => k_asm); (case zqc => rfl); (case zqg => assumption); (case zqd => assumption); k_whole))
  intro c A s sign tk0 I hA hsg R hR
  refine' enterC (binds := [(Str.ofString "sign", .str sign tk0)]) I ?k1 ?k2 hA.lt ?k4 ?k5 ?k6 ?_ ?c2 ?c3 ?c4
  case k1 => k_is
  case k2 => k_is
  case k4 => exact BindsTo.of_eq rfl
  case k5 => exact rfl
  case k6 => decide +kernel
  case c2 => exact rfl
  case c3 => exact rfl
  case c4 => exact rfl
  intro g L h₁ tk1 cells AA hAA Z F N hC I1 X T
  have hA1 := hAA 4 hA
  replace F : Fr g L h₁ (fun _ => none) := F
  obtain ⟨o', rfl, d1'⟩ := CellsAre.one hC
  clear hC
  replace d1' : o'.data = .cell (some (.str sign tk0)) := d1'
  have hnc := not_code_cell d1'
  have hL1 := Z.fresh F (Nat.lt_succ_self L)
  obtain ⟨p, q, fz, N1, P1⟩ := renew Z F N (by intro x hx; cases List.mem_singleton.mp hx; exact ⟨hL1.2.2.1, hL1.2.2.2, hnc⟩) I1
  clear N
  show wpAny _ _ _ _ _ _
  k_fold
  k_steps
  refine kdv_def rfl rfl rfl ?_
  refine kdv_all1 ?_
  k_steps
  refine kdv_all0 ?_
  refine mk_fnD (clos := [(Str.ofString "sign", L + 1)]) (qual := qSearch) q_search (.inr ⟨rfl, rfl, rfl⟩) (by walk_at "m_inv") rfl rfl rfl (by decide +kernel) (by decide +kernel) fun f2 t2 h2 tk2 M2 ht2 et2 => ?_
  have a2 := M2.after (s := { s with heap := h₁, toks := tk1 + 1 }) (tk := tk2)
  have hL2 : L < f2 := Nat.lt_of_lt_of_le F.ns.lt M2.ge
  have hc2 : h2.get? (L + 1) = some o' := M2.ext _ _ (N1 (L + 1, o') (by simp)).1 hL1.2.2.1 hL1.2.2.2
  have hLt : L < t2 := Nat.lt_of_lt_of_le F.ns.lt ht2
  obtain ⟨y1, y2, y3, y4, y5⟩ : FnAt f2 h2 := let ⟨_, _, _, e, _⟩ := M2.obj; ⟨_, _, _, _, e⟩
  have hsearch : ∀ A s', Inv c s'.heap → (∀ b o, h2.get? b = some o → b ≠ L → s.heap.objs.size ≤ b ∨ CodeLike o → s'.heap.get? b = some o) → Rm A 8 → ∀ x tkx, TextOk x → Calls c A (.ref f2) [.str x tkx] s' (SearchIs c s'.heap.objs.size x sign 0) ∧
       ∀ j tj, Calls c A (.ref f2) [.str x tkx, .int j tj] s' (SearchIs c s'.heap.objs.size x sign j) := by
    obtain ⟨doc, cd, ctv, hf2, hcr⟩ := M2.obj
    intro A s' I' S r x tkx hx
    have e2 := S _ _ hf2 (Nat.ne_of_gt hL2) (.inl (Nat.le_trans Z.le (Nat.le_of_lt hL2)))
    have ec := S _ _ hc2 hL1.1 (.inl (Nat.le_trans Z.le (Nat.le_succ _)))
    have et := S _ _ et2 (Nat.ne_of_gt hLt) (.inl (Nat.le_trans Z.le (Nat.le_of_lt hLt)))
    have hcr' : s'.heap.CodeRec cd qSearch := by
      obtain ⟨x1, x2, x3, x4, x5, x6, x7, x8⟩ := hcr
      refine ⟨x1, x2, x3, x4, x5, S _ _ x6 (fun z => ?_) (.inr ⟨x3, _, x4, x7, x8⟩), x7, x8⟩
      obtain ⟨oL, es, ep, eL, hdL, _⟩ := (fr_after Z F a2).ns
      rw [z] at x6; rw [show h2.get? L = some oL from eL] at x6; cases x6; rw [hdL] at x7; cases x7
    have core : ∀ (j : Int) (tj : Tok) (args : Args), (∀ fd : FuncData, s'.heap.get? f2 = some ⟨.type "function", none, .func fd, #[]⟩ → BindsTo s' fd args [(Str.ofString "chars", .str x tkx), (Str.ofString "place", .int j tj)]) →
        ∀ R : Result → Shared → Prop, (∀ v s'', After c s' s'' → SearchIs c s'.heap.objs.size x sign j v s'' → R (.ok (.ret v)) s'') → codeAny (MM c) A (.call (.ref f2) args) R s' := by
      intro j tj args hb R hR
      refine' enterX (binds := [(Str.ofString "chars", .str x tkx), (Str.ofString "place", .int j tj)]) I' e2 hcr' r.lt (hb _ e2) ?k5 ?_ ?c2 ?c3 ?c4 ?c5
      case k5 => exact locs rfl
      case c2 => exact rfl
      case c3 => exact rfl
      case c4 => exact rfl
      case c5 => decide
      clear F N1 P1 hb e2 hcr' S hcr hf2 a2 M2
      intro g L' h₁ p q fz AA hAA Z F N P ext X T
      have hA1 := hAA 7 r
      have hsz := hx.sz
      have hg := Z.old _ _ ec hL1.2.2.1 hL1.2.2.2
      show wpAny _ _ _ _ _ _
      k_fold
      k_steps
      refine wpAny_For ?_
      k_fold
      k_steps
      rename Fr _ _ _ _ => F2
      rename News _ _ _ _ => N2
      refine wpAny_call (iter_spec c AA AA _ x _ (by walk_at "m_inv") (hA1.le (by decide)) (hA1.le (by decide)) hx.asc hx.fin _ fun a s2 ha st hgs hgi hbr G => ?_)
      subst ha
      refine wpAny_pyIter_gen G.1 ?_
      dsimp only at st hgs hgi hbr G ⊢
      have F3 : Fr g L' s2.heap _ := fr_lo F2 F2.ns.lt st.keep
      have hL2 := F2.ns.lt
      clear P N2 F2
      generalize hU : unitsE 0 false x.cps.toList = U at *
      have hg0 : ∀ (i : Nat) (y : GenState), s'.gens[i]? = some y → s2.gens[i]? = some y ∧ i ≠ s'.gens.size := fun i y e =>
        ⟨hgi i y e, Nat.ne_of_lt (Array.getElem?_eq_some_iff.mp e).1⟩
      refine gen_loop hA1 Z rfl rfl rfl rfl hL2 (fun n m' => ∃ (t1 t2 : Tok), m' (Str.ofString "chars") = some (.str x t1) ∧ m' (Str.ofString "place") = some (.int j t2) ∧ findU x.cps.toList sign j (remU U n) = findU x.cps.toList sign j U)
        F3 st.inv G ⟨_, _, rfl, rfl, by rw [remU_full]⟩ (fun k s₁ m₁ pos u t1 t2 hu hJ S1 I1 F4 => ?_) (fun s3 m' S' I' F' hJ => ?_)
      · obtain ⟨t3, t4, hm1, hm2, hb⟩ := hJ
        rw [remU_succ hu, findU] at hb
        rw [map_as hm1, map_as hm2] at F4
        obtain ⟨p4, q4, fz4, N4, P4⟩ := renew Z F4 (own := []) News.nil (fun _ hx => by cases hx) I1
        show wpAny _ _ _ _ _ _
        k_fold
        k_steps
        · rename Fr _ _ _ _ => F5
          rename News _ _ _ _ => N5
          rename j ≤ (pos : Int) => hjp
          rename (u == sign) = true => hus
          replace hus := eq_of_beq hus
          obtain ⟨d, hd⟩ := hsg
          have hmem : (pos, (⟨#[d]⟩ : Str)) ∈ unitsE 0 false x.cps.toList := by
            rw [hU, ← hd, ← hus]; exact List.mem_reverse.mp (List.mem_of_getElem? hu)
          have hpl := unit_lt _ _ _ _ _ hmem
          rw [slice_take (by omega)]
          have ht := hx.take hmem
          have I5 : Inv c _ := Pt.inv Z P4 F5 N5 (by walk_at "m_fz") (by walk_at "m_tab") (by walk_at "m_tab")
          refine Calls.use (check_spec c AA _ _ _ I5 (hA1.le (by decide)) ht.noq ht.asc ht.fin) fun v s5 a5 hv => ?_
          replace hv : v = .bool (hitOk x.cps.toList pos) := by rw [hv]; simp [hitOk]
          subst hv
          obtain ⟨F6, p6, q6, fz6, N6, P6⟩ := after_step [] Z F5 N5 (fun _ h => by cases h) a5
          have hkeep : ∀ b o, h₁.objs.size ≤ b → s₁.heap.get? b = some o → s5.heap.get? b = some o := fun b o hb e => by
            have h51 : 51 < b := Nat.lt_of_lt_of_le c.lt (Nat.le_trans Z.tl (Nat.le_trans (Nat.le_of_lt hL2) hb))
            exact a5.ext b o (P4.keptAll F5 N5 (by intro y hy; simp [hy]) (by simp) (by simp) b o e (Nat.ne_of_gt (Nat.lt_of_lt_of_le hL2 hb)) (fun _ hy => by cases hy)) (Nat.ne_of_gt (Nat.lt_trans (by decide) h51)) (Nat.ne_of_gt h51)
          clear F5 N5 P4
          cases hk : hitOk x.cps.toList pos with
          | true =>
            rw [if_pos ⟨hjp, hus, hk⟩] at hb
            show wpAny _ _ _ _ _ _
            k_fold
            k_steps
            rename Fr _ _ _ _ => F7
            rename News _ _ _ _ => N7
            have I7 : Inv c _ := Pt.inv Z P6 F7 N7 (by walk_at "m_fz") (by walk_at "m_tab") (by walk_at "m_tab")
            have hlt7 := F7.ns.lt
            refine Calls.use (hit_spec c AA _ pos t1 I7 (hA1.le (by decide))) fun v s7 a7 hv => ?_
            obtain ⟨f, rfl, H⟩ := hv.ex
            refine hR _ _ ((fin (s' := Shared.mk _ _ _ _ _) Z F7 I7 (fun i y e => a5.gens i y (S1.gens i y (hg0 i y e).2 (hg0 i y e).1)) (fun e => a5.bare (S1.bare (hbr e))) (a5.os.trans (S1.os.trans st.os))).trans a7) ⟨?_⟩
            rw [hU, ← hb]
            exact ⟨f, rfl, H.le (Nat.le_trans Z.le (Nat.le_of_lt hlt7)) I'.size⟩
          | false =>
            rw [if_neg (by rw [hk]; simp)] at hb
            show wpAny _ _ _ _ _ _
            k_fold
            k_steps
            rename Fr _ _ _ _ => F7
            rename News _ _ _ _ => N7
            have I7 : Inv c _ := Pt.inv Z P6 F7 N7 (by walk_at "m_fz") (by walk_at "m_tab") (by walk_at "m_tab")
            exact ⟨⟨_, F7, _, _, rfl, rfl, hb⟩, I7, ⟨fun b o hb e => P6.keptAll F7 N7 (by intro y hy; simp [hy]) (by simp) (by simp) b o (hkeep b o hb e) (Nat.ne_of_gt (Nat.lt_of_lt_of_le hL2 hb)) (fun _ hy => by cases hy), a5.gens, a5.bare, a5.os⟩⟩
        · rename j ≤ (pos : Int) => hjp
          rename (u == sign) = false => hus
          rw [if_neg (by rintro ⟨_, h, _⟩; exact ne_of_beq_false hus h)] at hb
          exact ⟨⟨_, F4, _, _, rfl, rfl, hb⟩, I1, ⟨fun _ _ _ e => e, fun _ _ e => e, fun e => e, rfl⟩⟩
        · rename ¬ j ≤ (pos : Int) => hjp
          rw [if_neg (by rintro ⟨h, _, _⟩; exact hjp h)] at hb
          exact ⟨⟨_, F4, _, _, rfl, rfl, hb⟩, I1, ⟨fun _ _ _ e => e, fun _ _ e => e, fun e => e, rfl⟩⟩
      · obtain ⟨t3, t4, hm1, hm2, hb⟩ := hJ
        rw [remU_zero, findU] at hb
        obtain ⟨p4, q4, fz4, N4, P4⟩ := renew Z F' (own := []) News.nil (fun _ hx => by cases hx) I'
        show wpAny _ _ _ _ _ _
        k_steps
        exact hR _ _ (fin Z (by k_asm) (by walk_at "m_inv") (fun i y e => S'.gens i y (hg0 i y e).2 (hg0 i y e).1) (fun e => S'.bare (hbr e)) (S'.os.trans st.os)) ⟨by rw [hU, ← hb]⟩
    refine ⟨fun R hR => core 0 tk1 _ (fun fd e => ?_) R hR, fun j tj R hR => core j tj _ (fun fd e => ?_) R hR⟩
    · rw [e2] at e; cases e
      exact BindsTo.of_defaults rfl et rfl rfl rfl
    · rw [e2] at e; cases e
      exact BindsTo.of_defaults rfl et rfl rfl rfl
  obtain ⟨F2, p2, q2, fz2, N2, P2⟩ := after_step [] Z F N1 (fun _ h => by cases h) a2
  dsimp only at F2 N2 P2
  have J2 := M2.inv
  clear N1 P1 F M2 a2
  show wpAny _ _ _ _ _ _
  k_fold
  k_steps
  rename Fr _ _ _ _ => F3
  rename News _ _ _ _ => N3
  rename_i h3
  have k3 := P2.kept F3 N3 (by walk_at "m_fz")
  refine kla_eval rfl ?_
  refine mk_fn (clos := []) (qual := qFind) q_find (.inr ⟨rfl, rfl, rfl⟩) (by walk_at "m_inv") rfl rfl rfl (by decide +kernel) (by decide +kernel) fun f h4 tk4 M4 => ?_
  have a4 := M4.after (s := { s with heap := h3, toks := tk }) (tk := tk4)
  obtain ⟨fd, hf⟩ : ∃ fd, h4.get? f = some ⟨.type "function", none, .func fd, #[]⟩ := let ⟨_, _, _, hf, _⟩ := M4.obj; ⟨_, hf⟩
  have hge : h3.objs.size ≤ f := M4.ge
  have hLf : L < f := Nat.lt_of_lt_of_le F3.ns.lt hge
  have hf0 := Z.fresh F3 hLf
  have x4 := M4.ext
  obtain ⟨F4, p4, q4, fz4, N4, P4⟩ := after_new [] Z F3 N3 (fun _ h => by cases h) a4 hf hLf (not_code_func rfl)
  clear N3 P2 F3 M4 a4 hf
  dsimp only at F4 N4 P4
  show wpAny _ _ _ _ _ _
  k_fold
  k_steps
  rename Fr _ _ _ _ => F5
  rename News _ _ _ _ => N5
  rename_i h5
  refine fn_setAttr (N5 (f, _) (List.mem_cons_self ..)).1 f_search fun h6 tk6 e6 n6 k6 => ?_
  dsimp only at e6 n6 k6
  have I5 : Inv c h5 := Pt.inv Z P4 F5 N5 (by walk_at "m_fz") (by walk_at "m_tab") (by walk_at "m_tab")
  have hf5 := (N5 (f, _) (List.mem_cons_self ..)).1
  have I6 : Inv c h6 := I5.but (fun b => b = f) (fun b o e hb => k6 b o hb e) (fun b hb => by rw [hb]; exact Nat.le_trans Z.tl (Nat.le_of_lt hLf)) (fun b o hb e hc => by
    rw [hb, hf5] at e; cases e; exact not_code_func rfl hc) (Nat.le_trans I5.size (Nat.le_of_lt n6.lt))
  have F6 : Fr g L h6 _ := ⟨F5.ns.at fun o e => k6 _ _ (Ne.symm hf0.1) e, fun b o e => k6 b o (fun z => by rw [z, hf0.2.1] at e; cases e) (F5.keep b o e), F5.above⟩
  obtain ⟨p6, q6, fz6, N6, P6⟩ := renew Z F6 (own := []) News.nil (fun _ hx => by cases hx) I6
  have hs5 : s.heap.objs.size ≤ h5.objs.size := Nat.le_trans Z.le (Nat.le_of_lt F5.ns.lt)
  have k26 : ∀ b o, h2.get? b = some o → b ≠ L → s.heap.objs.size ≤ b ∨ CodeLike o → h6.get? b = some o := fun b o e hb hq => by
    have n2 : b ≠ 44 ∧ b ≠ 51 := by
      rcases hq with hq | hq
      · have h1 : 51 < b := Nat.lt_of_lt_of_le c.lt (Nat.le_trans I.size hq)
        exact ⟨Nat.ne_of_gt (Nat.lt_trans (by decide) h1), Nat.ne_of_gt h1⟩
      · exact J2.not_code e hq
    have e3 := k3 b o e hb n2.1 n2.2 (fun _ hy => by cases hy)
    have hbf : b ≠ f := Nat.ne_of_lt (Nat.lt_of_lt_of_le (Heap.lt_size e3) hge)
    have e4 := x4 b o e3 n2.1 n2.2
    have e5 := P4.kept F5 N5 (by walk_at "m_fz") b o e4 hb n2.1 n2.2 (fun y hy => by cases List.mem_singleton.mp hy; exact hbf)
    exact k6 b o hbf e5
  have H6 : FinderAt c s.heap.objs.size h6 f sign := ⟨I.size, fd, #[], h5.objs.size, _, f2, e6, n6, if_pos rfl, Nat.le_trans Z.le (Nat.le_of_lt hLf), hs5, Nat.le_trans Z.le (Nat.le_of_lt hL2), ⟨y1, y2, y3, y4, k26 _ _ y5 (Nat.ne_of_gt hL2) (.inl (Nat.le_trans Z.le (Nat.le_of_lt hL2)))⟩, fun A' s' I' S r => hsearch A' s' I' (fun b o e hb hq => S b o (k26 b o e hb hq) hq) r⟩
  clear N5 F5 P4 hsearch
  show wpAny _ _ _ _ _ _
  k_steps
  exact hR _ _ (fin0 Z (by k_asm) (by walk_at "m_inv")) ⟨f, rfl, H6⟩
end Mine

end
section
open PySem PySem.W PyProof.Rows PySem.Calls PySem.Spec
namespace Mine
/-- a walk's own stop: the kit's lines are not tried in vain -/
structure Stop (p : Prop) : Prop where
  out : p
/-- the places of the bare signs up to which the brackets are closed -/
def hitsU (l : List Nat) (sign : Str) (U : List (Nat × Str)) : List Nat := U.filterMap fun x => if x.2 = sign ∧ hitOk l x.1 = true then some x.1 else none
theorem find_hits (l : List Nat) (sign : Str) (j : Int) : ∀ U, findU l sign j U = (hitsU l sign U).find? (fun p : Nat => decide (j ≤ (p : Int)))
  | [] => rfl
  | (p, u) :: r => by
    rw [findU, hitsU, List.filterMap_cons]
    dsimp only
    by_cases h : u = sign ∧ hitOk l p = true
    · rw [if_pos h]
      dsimp only
      rw [List.find?_cons]
      by_cases hj : j ≤ (p : Int)
      · rw [if_pos ⟨hj, h⟩, decide_eq_true hj]
      · rw [if_neg (fun z => hj z.1), decide_eq_false hj, find_hits l sign j r]; rfl
    · rw [if_neg (fun z => h z.2), if_neg h, find_hits l sign j r]; rfl
theorem units_sorted : ∀ (l : List Nat) (i : Nat) (e : Bool), (∀ x ∈ unitsE i e l, i ≤ x.1) ∧ (unitsE i e l).Pairwise (fun a b => a.1 < b.1)
  | [], i, e => by rw [unitsE]; exact ⟨fun x h => (by cases h), List.Pairwise.nil⟩
  | d :: r, i, true => by
    have h := units_sorted r (i + 1) false
    rw [unitsE]
    refine ⟨fun x hx => ?_, List.pairwise_cons.mpr ⟨fun y hy => Nat.lt_of_succ_le (h.1 y hy), h.2⟩⟩
    rcases List.mem_cons.mp hx with rfl | hx
    · exact Nat.le_refl _
    · exact Nat.le_of_succ_le (h.1 x hx)
  | d :: r, i, false => by
    rw [unitsE]
    split
    · have h := units_sorted r (i + 1) true
      exact ⟨fun x hx => Nat.le_of_succ_le (h.1 x hx), h.2⟩
    · have h := units_sorted r (i + 1) false
      refine ⟨fun x hx => ?_, List.pairwise_cons.mpr ⟨fun y hy => Nat.lt_of_succ_le (h.1 y hy), h.2⟩⟩
      rcases List.mem_cons.mp hx with rfl | hx
      · exact Nat.le_refl _
      · exact Nat.le_of_succ_le (h.1 x hx)
theorem hits_sorted (l : List Nat) (sign : Str) (U : List (Nat × Str)) (h : U.Pairwise (fun a b => a.1 < b.1)) : (hitsU l sign U).Pairwise (· < ·) := by
  unfold hitsU
  rw [List.pairwise_filterMap]
  refine h.imp fun {a b} hab x hx y hy => ?_
  split at hx
  · split at hy
    · cases hx; cases hy; exact hab
    · cases hy
  · cases hx
theorem hits_lt (l : List Nat) (sign : Str) : ∀ p ∈ hitsU l sign (unitsE 0 false l), p < l.length := by
  intro p hp
  obtain ⟨⟨q, u⟩, hm, he⟩ := List.mem_filterMap.mp hp
  dsimp only at he
  split at he
  · cases he
    have := unit_lt _ _ _ _ _ hm
    omega
  · cases he
theorem find_first (H : List Nat) : H.find? (fun p : Nat => decide ((0 : Int) ≤ (p : Int))) = H.head? := by
  cases H with
  | nil => rfl
  | cons a r => rw [List.find?_cons, decide_eq_true (Int.natCast_nonneg a)]; rfl
theorem find_next {pre post : List Nat} {p : Nat} (h : (pre ++ p :: post).Pairwise (· < ·)) : (pre ++ p :: post).find? (fun q : Nat => decide ((p : Int) + 1 ≤ (q : Int))) = post.head? := by
  rw [List.find?_append]
  have h1 : pre.find? (fun q : Nat => decide ((p : Int) + 1 ≤ (q : Int))) = none := by
    rw [List.find?_eq_none]
    intro x hx hd
    have := (List.pairwise_append.mp h).2.2 x hx p (List.mem_cons_self ..)
    have hd := of_decide_eq_true hd
    omega
  rw [h1, Option.none_or, List.find?_cons, decide_eq_false (by omega)]
  dsimp only
  cases post with
  | nil => rfl
  | cons a r =>
    have := (List.pairwise_cons.mp (List.pairwise_append.mp h).2.1).1 a (List.mem_cons_self ..)
    rw [List.find?_cons, decide_eq_true (by omega)]; rfl
end Mine

end
section
open PySem PySem.W PyProof.Rows PySem.Calls PySem.Spec
namespace Mine
theorem fillF2 : ∀ (w : World) (h : Heap), (hd.heap_39 w.params).In h → model PySem.Challenge.rw_ph0043_01.prog w = model PySem.Challenge.rw_ph0043_01.prog w := by
  k_fill
  intro w h _; rfl
theorem Fn.stable {c : P0} {h g h'' : Heap} {L lo : Nat} {m : Str → Option Value} (Z : Fn c h g L) (F : Fr g L h'' m) (I : Inv c h) (hlo : c.gT.objs.size ≤ lo) : Stable lo h h'' := fun b o e q => by
  have n2 : b ≠ 44 ∧ b ≠ 51 := by
    rcases q with q | q
    · have h1 : 51 < b := Nat.lt_of_lt_of_le c.lt (Nat.le_trans hlo q)
      exact ⟨Nat.ne_of_gt (Nat.lt_trans (by decide) h1), Nat.ne_of_gt h1⟩
    · exact I.not_code e q
  exact F.keep b o (Z.old b o e n2.1 n2.2)

theorem after_fresh {c : P0} {h₀ g : Heap} {L : Addr} {s₁ s₂ : Shared} {m : Str → Option Value} {news : List (Addr × Obj)} (own : List (Addr × Obj)) {f : Addr} {fo : Obj} (Z : Fn c h₀ g L) (F : Fr g L s₁.heap m) (N : News g L s₁.heap news)
    (ho : ∀ x ∈ own, x ∈ news ∧ x.1 ≠ 44 ∧ x.1 ≠ 51 ∧ ¬ CodeLike x.2) (I : Inv c s₁.heap) (a : After c s₁ s₂) (hf : s₂.heap.get? f = some fo) (hn0 : s₁.heap.get? f = none) (hn : ¬ CodeLike fo) :
    Fr g L s₂.heap m ∧ ∃ p q fz, News g L s₂.heap ((f, fo) :: own ++ (44, tabObj p) :: (51, tabObj q) :: fz) ∧ Pt g L ((f, fo) :: own) s₂.heap p q fz := by
  have F' := fr_after Z F a
  have h1 : f ≠ L := fun z => by
    obtain ⟨oL, es, ep, eL, _⟩ := F.ns
    rw [z, eL] at hn0; cases hn0
  have h2 : g.get? f = none := by
    cases q : g.get? f with
    | none => rfl
    | some o => have := F.keep _ _ q; rw [hn0] at this; cases this
  have h3 : f ≠ 44 := fun z => by obtain ⟨p, hp, _⟩ := I.t44; rw [z, hp] at hn0; cases hn0
  have h4 : f ≠ 51 := fun z => by obtain ⟨p, hp, _⟩ := I.t51; rw [z, hp] at hn0; cases hn0
  refine ⟨F', renew Z F' (fun x hx => ?_) (fun x hx => ?_) a.inv⟩
  · rcases List.mem_cons.mp hx with rfl | hx
    · exact ⟨hf, h1, h2⟩
    · have n := N x (ho x hx).1
      exact ⟨a.ext _ _ n.1 (ho x hx).2.1 (ho x hx).2.2.1, n.2⟩
  · rcases List.mem_cons.mp hx with rfl | hx
    · exact ⟨h3, h4, hn⟩
    · exact (ho x hx).2
theorem not_code_seq {o : Obj} {v : Array Value} (h : o.data = .seq v) : ¬ CodeLike o := by
  rintro ⟨vs, q, t, hd, _⟩; rw [h] at hd; cases hd

theorem Pt.stableO {c : P0} {h₀ g h h'' : Heap} {L lo : Nat} {m'' : Str → Option Value} {p q : Array Value} {own fz news : List (Addr × Obj)} (Z : Fn c h₀ g L) (P : Pt g L own h p q fz) (F : Fr g L h'' m'') (N : News g L h'' news) (hs : ∀ x ∈ fz, x ∈ news)
    (ho : ∀ y ∈ own, y ∈ news ∧ h.get? y.1 = some y.2) (hlo : L < lo) : Stable lo h h'' := fun b o e r => by
  by_cases hb : ∃ y ∈ own, b = y.1
  · obtain ⟨y, hy, rfl⟩ := hb
    rw [(ho y hy).2] at e; cases e
    exact (N y (ho y hy).1).1
  · have hb' : ∀ y ∈ own, b ≠ y.1 := fun y hy z => hb ⟨y, hy, z⟩
    rcases r with r | r
    · have h1 : 51 < b := Nat.lt_of_lt_of_le c.lt (Nat.le_trans Z.tl (Nat.le_trans (Nat.le_of_lt hlo) r))
      exact P.kept F N hs b o e (Nat.ne_of_gt (Nat.lt_of_lt_of_le hlo r)) (Nat.ne_of_gt (Nat.lt_trans (by decide) h1)) (Nat.ne_of_gt h1) hb'
    · have z := P.code b o e r
      exact P.kept F N hs b o e z.1 z.2.1 z.2.2.1 z.2.2.2

structure RevIs (c : P0) (lo : Nat) (x sign : Str) (v : Value) (s : Shared) : Prop where
  ex : match (hitsU x.cps.toList sign (unitsE 0 false x.cps.toList)).getLast? with
    | none => v = .none
    | some p => ∃ f, v = .ref f ∧ HitAt c lo s.heap f p

def RevJ (c : P0) (s : Shared) (g : Heap) (L f : Addr) (x : Str) (tkx tkc : Tok) (HH : List Nat) (n : Nat) (s' : Shared) : Prop :=
  ∃ pre p post m' fm ti tj, HH = pre ++ p :: post ∧ n = post.length ∧ Fr g L s'.heap m' ∧ Inv c s'.heap ∧
    m' (Str.ofString "prog") = some (.ref f) ∧ m' (Str.ofString "chars") = some (.str x tkx) ∧ m' (Str.ofString "col") = some (.int x.cps.toList.length tkc) ∧ m' (Str.ofString "m") = some (.ref fm) ∧
    m' (Str.ofString "i") = some (.int (p : Nat) ti) ∧ m' (Str.ofString "j") = some (.int ((p : Nat) + 1) tj) ∧ HitAt c (L + 1) s'.heap fm p ∧
    (∀ (i : Nat) (x : GenState), s.gens[i]? = some x → s'.gens[i]? = some x) ∧ (AllBare s.gens → AllBare s'.gens) ∧ s'.os = s.os

set_option maxRecDepth 100000 in
set_option maxHeartbeats 4000000 in
theorem reverse_spec : ∀ (c : P0) (A : Around) (s : Shared) (lo : Nat) (f : Addr) (sign x : Str) (tkx tkc : Tok), Inv c s.heap → Rm A 10 → FinderAt c lo s.heap f sign → TextOk x →
    Calls c A (.ref 42) [.ref f, .str x tkx, .int x.cps.toList.length tkc] s (RevIs c s.heap.objs.size x sign) := by
  k_with_none
  k_with "getMethod ref" => refine Stop.out ?_
  k_with "m_inv" => exact Pt.inv (by assumption) (by assumption) (by k_asm) (by k_asm) (by walk_at "m_fz") (by walk_at "m_tab") (by walk_at "m_tab")
  k_with "assign Tuple" => (k_here; (with_reducible show wpAny _ _ (assign (Expr.Tuple _ _ _) _ (Value.ref _)) _ _ _); k_dflt (refine' unpackN_ ?zqF ?zqN ?zqT ?zqk1 ?zqk2 ?zqk3 ?_; (case zqF => k_asm); (case zqN => k_asm); (case zqT => (refine News.isTup (by k_asm) (by k_mem))); (case zqk1 => exact Rm.handled (by assumption)); (case zqk2 => exact rfl); (case zqk3 => exact rfl)); intro _ _ _)
  k_with "exec While" => (k_here; with_reducible refine wpAny_While ?_)
  intro c A s lo f sign x tkx tkc I hA hF hx R hR
  refine' enterM (binds := [(Str.ofString "prog", .ref f), (Str.ofString "chars", .str x tkx), (Str.ofString "col", .int x.cps.toList.length tkc)]) I ?k1 ?k2 hA.lt ?k4 ?k5 ?_ ?c2 ?c3 ?c4 ?c5
  case k1 => k_is
  case k2 => k_is
  case k4 => exact BindsTo.of_eq rfl
  case k5 => exact locs rfl
  case c2 => exact rfl
  case c3 => exact rfl
  case c4 => exact rfl
  case c5 => decide
  intro g L h₁ p q fz AA hAA Z F N P ext X T
  have hA1 := hAA 9 hA
  show wpAny _ _ _ _ _ _
  k_fold
  k_steps
  have hF1 := hF.stable (Z.stable F I hF.base)
  obtain ⟨fd, sl, d, md, f2, a1, a2, a3, a4, a5, a7, hfn, a6⟩ := hF1.obj
  refine Stop.mk ?_
  refine fn_getMethod a1 a2 a3 f_search rfl ?_
  refine callWith_F hfn ?_
  k_steps
  · exact hfn
  have hL1 := F.ns.lt
  refine Calls.use ((a6 AA _ (by walk_at "m_inv") (Stable.refl _ _) (hA1.le (by decide)) x tkx hx).1) fun v s1 b1 hv => ?_
  replace hv := hv.ex
  dsimp only at hv
  rw [find_hits, find_first] at hv
  obtain ⟨F1, p1, q1, fz1, N1, P1⟩ := after_step [] Z F N (fun _ h => by cases h) b1
  clear F N P hF1 a1 a2 a3 a4 a5 a7 hfn a6
  cases hH : hitsU x.cps.toList sign (unitsE 0 false x.cps.toList) with
  | nil =>
    rw [hH] at hv
    replace hv : v = .none := hv
    subst hv
    show wpAny _ _ _ _ _ _
    k_fold
    k_steps
    exact hR _ _ (fin Z (by k_asm) (by walk_at "m_inv") b1.gens b1.bare b1.os) ⟨by rw [hH]; rfl⟩
  | cons p0 post =>
    rw [hH] at hv
    replace hv : ∃ f, v = .ref f ∧ HitAt c h₁.objs.size s1.heap f p0 := hv
    obtain ⟨fm, rfl, H1⟩ := hv
    show wpAny _ _ _ _ _ _
    k_fold
    k_steps
    rename Fr _ _ _ _ => F2
    rename News _ _ _ _ => N2
    have H2 := H1.stable (P1.stable Z F2 N2 (by intro y hy; simp [hy]) hL1)
    obtain ⟨fd, sl, d, md, fs, a1, a2, a3, a4, a5, a7, hfn, a6⟩ := H2.obj
    refine fn_truthy a1 ?_
    k_steps
    rename Fr _ _ _ _ => F3
    rename News _ _ _ _ => N3
    clear a1 a2 a3 a4 a5 a7 hfn a6 H2
    have H3 := H1.stable (P1.stable Z F3 N3 (by intro y hy; simp [hy]) hL1)
    obtain ⟨fd, sl, d, md, fs, a1, a2, a3, a4, a5, a7, hfn, a6⟩ := H3.obj
    refine Stop.mk ?_
    refine fn_getMethod a1 a2 a3 f_span rfl ?_
    refine callWith_F0 hfn ?_
    refine Calls.use (a6 AA _ (Pt.inv Z P1 F3 N3 (by walk_at "m_fz") (by walk_at "m_tab") (by walk_at "m_tab")) (Stable.refl _ _) (hA1.le (by decide))) fun v s4 b4 hv => ?_
    obtain ⟨t, ti, tj, rfl, ht0, ht⟩ := hv.ex
    obtain ⟨F4, p4, q4, fz4, N4, P4⟩ := after_fresh [] Z F3 N3 (fun _ h => by cases h) (Pt.inv Z P1 F3 N3 (by walk_at "m_fz") (by walk_at "m_tab") (by walk_at "m_tab")) b4 ht ht0 (not_code_seq rfl)
    have H4 := H3.stable (b4.stable (Pt.inv Z P1 F3 N3 (by walk_at "m_fz") (by walk_at "m_tab") (by walk_at "m_tab")) H1.base)
    have hg1 : ∀ (i : Nat) (x : GenState), s.gens[i]? = some x → s4.gens[i]? = some x := fun i y e => b4.gens i y (b1.gens i y e)
    have hb1 : AllBare s.gens → AllBare s4.gens := fun e => b4.bare (b1.bare e)
    have ho1 : s4.os = s.os := b4.os.trans b1.os
    have ht4 := ht
    clear a1 a2 a3 a4 a5 a7 hfn a6 H3 F3 N3 P1 H1 ht
    show wpAny _ _ _ _ _ _
    k_fold
    k_steps
    rename Fr _ _ _ _ => F5
    rename News _ _ _ _ => N5
    have I5 := Pt.inv Z P4 F5 N5 (by walk_at "m_fz") (by walk_at "m_tab") (by walk_at "m_tab")
    have hsort := hits_sorted x.cps.toList sign _ (units_sorted x.cps.toList 0 false).2
    have hlt := hits_lt x.cps.toList sign
    generalize hHH : hitsU x.cps.toList sign (unitsE 0 false x.cps.toList) = HH at *
    refine codeAny_whileLoop (RevJ c s g L f x tkx tkc HH) (fun n s' hJ => ?_) post.length ⟨[], p0, post, _, fm, _, _, hH, rfl, F5, I5, rfl, rfl, rfl, rfl, rfl, rfl, (H4.le hL1 (Nat.le_trans Z.tl (Nat.le_succ _))).stable ?_, hg1, hb1, ho1⟩
    · clear H4 F5 N5 P4 I5 hH hg1 hb1 ho1
      obtain ⟨pre, pp, post, m', fm, ti, tj, hH, hn, F, I', h1, h2, h3, h4, h5, h6, H, hg, hb, ho⟩ := hJ
      rw [map_as h1, map_as h2, map_as h3, map_as h4, map_as h5, map_as h6] at F
      obtain ⟨p4, q4, fz4, N4, P4⟩ := renew Z F (own := []) News.nil (fun _ hx => by cases hx) I'
      have hp := hlt pp (by rw [hH]; simp)
      have hp1 : (pp : Int) < (x.cps.toList.length : Int) := by omega
      have hp2 : (pp : Int) + 1 ≤ (x.cps.toList.length : Int) := by omega
      have hp3 : ((pp : Int) == (pp : Int) + 1) = false := by simp; omega
      show wpAny _ _ _ _ _ _
      k_fold
      k_steps
      rename Fr _ _ _ _ => F6
      rename News _ _ _ _ => N6
      have hF6 := hF.stable (Z.stable F6 I hF.base)
      obtain ⟨fd, sl, d, md, f2, a1, a2, a3, a4, a5, a7, hfn, a6⟩ := hF6.obj
      refine Stop.mk ?_
      refine fn_getMethod a1 a2 a3 f_search rfl ?_
      refine callWith_F hfn ?_
      k_steps
      · exact hfn
      have hL6 := F6.ns.lt
      have I6 := Pt.inv Z P4 F6 N6 (by walk_at "m_fz") (by walk_at "m_tab") (by walk_at "m_tab")
      have H6 := H.stable (P4.stable Z F6 N6 (by intro y hy; simp [hy]) (Nat.lt_succ_self L))
      refine Calls.use ((a6 AA _ I6 (Stable.refl _ _) (hA1.le (by decide)) x tkx hx).2 _ _) fun v s7 b7 hv => ?_
      replace hv := hv.ex
      dsimp only at hv
      rw [find_hits, hHH, hH, find_next (by rw [← hH]; exact hsort)] at hv
      obtain ⟨F7, p7, q7, fz7, N7, P7⟩ := after_step [] Z F6 N6 (fun _ h => by cases h) b7
      have H7 := H6.stable (b7.stable I6 H.base)
      have hg7 : ∀ (i : Nat) (x : GenState), s.gens[i]? = some x → s7.gens[i]? = some x := fun i y e => b7.gens i y (hg i y e)
      have hb7 : AllBare s.gens → AllBare s7.gens := fun e => b7.bare (hb e)
      have ho7 : s7.os = s.os := b7.os.trans ho
      clear F6 N6 P4 I6 H6 a1 a2 a3 a4 a5 a7 hfn a6 hF6 H
      cases post with
      | nil =>
        replace hv : v = .none := hv
        subst hv
        show wpAny _ _ _ _ _ _
        k_fold
        k_steps
        rename Fr _ _ _ _ => F8
        rename News _ _ _ _ => N8
        have H8 := H7.stable (P7.stable Z F8 N8 (by intro y hy; simp [hy]) (Nat.lt_succ_self L))
        refine hR _ _ (fin Z F8 (Pt.inv Z P7 F8 N8 (by walk_at "m_fz") (by walk_at "m_tab") (by walk_at "m_tab")) hg7 hb7 ho7) ⟨?_⟩
        rw [hHH, hH, List.getLast?_concat]
        exact ⟨fm, rfl, H8.le (Nat.le_trans Z.le (Nat.le_succ _)) I.size⟩
      | cons p' post' =>
        replace hv : ∃ f, v = .ref f ∧ HitAt c _ s7.heap f p' := hv
        obtain ⟨fm', rfl, H1⟩ := hv
        show wpAny _ _ _ _ _ _
        k_fold
        k_steps
        rename Fr _ _ _ _ => F8
        rename News _ _ _ _ => N8
        have H8 := H1.stable (P7.stable Z F8 N8 (by intro y hy; simp [hy]) hL6)
        obtain ⟨fd, sl, d, md, fs, a1, a2, a3, a4, a5, a7, hfn, a6⟩ := H8.obj
        have I8 := Pt.inv Z P7 F8 N8 (by walk_at "m_fz") (by walk_at "m_tab") (by walk_at "m_tab")
        refine fn_truthy a1 ?_
        k_steps
        refine Stop.mk ?_
        refine fn_getMethod a1 a2 a3 f_span rfl ?_
        refine callWith_F0 hfn ?_
        refine Calls.use (a6 AA _ I8 (Stable.refl _ _) (hA1.le (by decide))) fun v s9 b9 hv => ?_
        obtain ⟨t, ti, tj, rfl, ht0, ht⟩ := hv.ex
        obtain ⟨F9, p9, q9, fz9, N9, P9⟩ := after_fresh [] Z F8 N8 (fun _ h => by cases h) I8 b9 ht ht0 (not_code_seq rfl)
        have H9 := (H8.stable (b9.stable I8 H1.base)).le (lo' := L + 1) hL6 (Nat.le_trans Z.tl (Nat.le_succ _))
        have hg9 : ∀ (i : Nat) (x : GenState), s.gens[i]? = some x → s9.gens[i]? = some x := fun i y e => b9.gens i y (hg7 i y e)
        have hb9 : AllBare s.gens → AllBare s9.gens := fun e => b9.bare (hb7 e)
        have ho9 : s9.os = s.os := b9.os.trans ho7
        clear a1 a2 a3 a4 a5 a7 hfn a6 H8 F8 N8 P7 H1 H7 I8
        show wpAny _ _ _ _ _ _
        k_fold
        k_steps
        rotate_left 2
        · exact post'.length
        · rw [hn]; exact Nat.lt_succ_self _
        · rename Fr _ _ _ _ => F10
          rename News _ _ _ _ => N10
          have I10 := Pt.inv Z P9 F10 N10 (by walk_at "m_fz") (by walk_at "m_tab") (by walk_at "m_tab")
          have H10 := H9.stable (P9.stableO Z F10 N10 (by intro y hy; simp [hy]) (by intro y hy; cases List.mem_singleton.mp hy; exact ⟨by simp, ht⟩) (Nat.lt_succ_self L))
          exact ⟨pre ++ [pp], p', post', _, fm', _, _, by rw [hH, List.append_assoc]; rfl, rfl, F10, I10, rfl, rfl, rfl, rfl, rfl, rfl, H10, hg9, hb9, ho9⟩
    · exact P4.stableO Z F5 N5 (by intro y hy; simp [hy]) (by intro y hy; cases List.mem_singleton.mp hy; exact ⟨by simp, ht4⟩) (Nat.lt_succ_self L)
end Mine

end
section
open PySem PySem.W PyProof.Rows PySem.Calls PySem.Spec
namespace Mine
/-- a token: a bare sign, or a backslash and a sign -/
def UnitOk (u : Str) : Prop := (∃ d, u = ⟨#[d]⟩ ∧ d < 128 ∧ d ≠ 34 ∧ d ≠ 92) ∨ (∃ d, u = ⟨#[92, d]⟩ ∧ d < 128 ∧ d ≠ 34)
def flat (ts : List Str) : List Nat := ts.flatMap fun t => t.cps.toList
def posList : Nat → List Str → List (Nat × Str)
  | _, [] => []
  | i, t :: r => (i + t.cps.toList.length - 1, t) :: posList (i + t.cps.toList.length) r
theorem flat_cons (t : Str) (r : List Str) : flat (t :: r) = t.cps.toList ++ flat r := List.flatMap_cons ..
theorem flat_app (a b : List Str) : flat (a ++ b) = flat a ++ flat b := List.flatMap_append ..
theorem units_flat : ∀ (ts : List Str) (i : Nat), (∀ t ∈ ts, UnitOk t) → unitsE i false (flat ts) = posList i ts
  | [], _, _ => rfl
  | t :: r, i, h => by
    have ih := fun j => units_flat r j fun u hu => h u (List.mem_cons_of_mem _ hu)
    rw [flat_cons, posList]
    rcases h t (List.mem_cons_self ..) with ⟨d, rfl, _, _, h3⟩ | ⟨d, rfl, _, _⟩
    · show unitsE i false (d :: flat r) = _
      rw [unitsE, if_neg h3, ih]; rfl
    · show unitsE i false (92 :: d :: flat r) = _
      rw [unitsE, if_pos rfl, unitsE, ih]; rfl
theorem end_flat : ∀ (ts : List Str), (∀ t ∈ ts, UnitOk t) → endEsc false (flat ts) = false
  | [], _ => rfl
  | t :: r, h => by
    have ih := end_flat r fun u hu => h u (List.mem_cons_of_mem _ hu)
    rw [flat_cons]
    rcases h t (List.mem_cons_self ..) with ⟨d, rfl, _, _, h3⟩ | ⟨d, rfl, _, _⟩
    · show endEsc false (d :: flat r) = _
      rw [endEsc, show (d == 92) = false by simpa using h3]; exact ih
    · show endEsc false (92 :: d :: flat r) = _
      rw [endEsc]; exact ih
theorem pos_snd : ∀ (ts : List Str) (i : Nat), (posList i ts).map (·.2) = ts
  | [], _ => rfl
  | t :: r, i => by rw [posList, List.map_cons, pos_snd r]
def hitsT (sign : Str) : List Str → List Str → List Nat
  | _, [] => []
  | pre, t :: r => if t = sign ∧ balU pre 0 = true then pre.length :: hitsT sign (pre ++ [t]) r else hitsT sign (pre ++ [t]) r
theorem hits_tokens (sign : Str) (hs : ∃ d, sign = ⟨#[d]⟩) : ∀ (rest pre : List Str), (∀ t ∈ pre ++ rest, UnitOk t) →
    hitsU (flat (pre ++ rest)) sign (posList (flat pre).length rest) = (hitsT sign pre rest).map fun k => (flat ((pre ++ rest).take k)).length
  | [], pre, _ => rfl
  | t :: r, pre, h => by
    have e : pre ++ t :: r = (pre ++ [t]) ++ r := by simp
    have ih := hits_tokens sign hs r (pre ++ [t]) (by rw [← e]; exact h)
    rw [← e] at ih
    have e2 : (flat pre).length + t.cps.toList.length = (flat (pre ++ [t])).length := by rw [flat_app, List.length_append]; simp [flat]
    rw [posList, e2, hitsU, List.filterMap_cons, hitsT]
    dsimp only
    by_cases ht : t = sign
    · obtain ⟨d, hd⟩ := hs
      have e3 : (flat pre).length + t.cps.toList.length - 1 = (flat pre).length := by rw [ht, hd]; rfl
      have e4 : hitOk (flat (pre ++ t :: r)) (flat pre).length = balU pre 0 := by
        unfold hitOk
        rw [flat_app, List.take_left, units_flat pre 0 (fun u hu => h u (List.mem_append_left _ hu)), pos_snd]
      rw [← e2, e3, e4]
      by_cases hb : balU pre 0 = true
      · rw [if_pos ⟨ht, hb⟩, if_pos ⟨ht, hb⟩]
        dsimp only
        rw [List.map_cons, List.take_left, e2]
        exact congrArg _ ih
      · rw [if_neg (fun z => hb z.2), if_neg (fun z => hb z.2), e2]
        exact ih
    · rw [if_neg (fun z => ht z.1), if_neg (fun z => ht z.1)]
      exact ih
end Mine

end
section
open PySem PySem.W PyProof.Rows PySem.Calls PySem.Spec
namespace Mine
structure TurnW (c : P0) (g : Heap) (L : Addr) (St : Nat → Heap → Prop) (J : Nat → (Str → Option Value) → Shared → Prop) (i : Nat) (s₂ : Shared) : Prop where
  fr : ∃ m₂, Fr g L s₂.heap m₂ ∧ J i m₂ s₂
  inv : Inv c s₂.heap
  st : St i s₂.heap
theorem walk_loop {c : P0} {A : Around} {IT : Addr} {fp wr : List Addr} {n : Nat} {Pv : Nat → Value → Prop} {St : Nat → Heap → Prop} (W : Walks PySem.Challenge.rw_ph0043_01.prog c.w A IT fp wr n Pv St)
    {env : Env} {xv : Str} {px : Pos} {body : List Stmt} {R : Result → Shared → Prop} {g h₀ : Heap} {L : Addr} {s : Shared} {m : Str → Option Value}
    (Z : Fn c h₀ g L) (hL : env.locals = L) (hxv : env.kindOf xv = some .local)
    (hp : (env.scope.kind == .class || (env.scope.kind == .module && env.locals != env.globals)) = false)
    (hwr : ∀ b ∈ wr, L < b) (hcw : ∀ i h, St i h → ∀ b ∈ wr, ∀ o, h.get? b = some o → ¬ CodeLike o) (hLf : L ∉ fp)
    (J : Nat → (Str → Option Value) → Shared → Prop)
    (hJ : ∀ i m' s' h' tk, J i m' s' → (∀ b o, b ∉ wr → b ≠ L → s'.heap.get? b = some o → h'.get? b = some o) → J i m' { s' with heap := h', toks := tk })
    (F : Fr g L s.heap m) (I : Inv c s.heap) (hst : St 0 s.heap) (h0 : J 0 m s)
    (step : ∀ i v m₁ s₁, i < n → Pv i v → J i m₁ s₁ → Inv c s₁.heap → St (i + 1) s₁.heap → Fr g L s₁.heap (fun y => if y = xv then some v else m₁ y) →
      wpAny (MM c) A (execs body env) (fun f s₂ => match f with
        | .next | .cont => TurnW c g L St J (i + 1) s₂
        | .brk => R (.ok .next) s₂
        | .ret v => R (.ok (.ret v)) s₂) (fun _ _ => False) s₁)
    (hR : ∀ s' m', Inv c s'.heap → Fr g L s'.heap m' → J n m' s' → R (.ok .next) s') :
    codeAny (MM c) A (.forLoop (.Name xv px) (.ref IT) body [] env) R s := by
  subst hL
  have hLw : env.locals ∉ wr := fun h => hLf (W.sub _ h)
  have fresh : ∀ {h' m'}, Fr g env.locals h' m' → ∀ b o, g.get? b = some o → b ∉ wr := fun F' b o e hb =>
    absurd (Heap.lt_size e) (Nat.not_lt.mpr (Nat.le_trans F'.above (Nat.le_of_lt (hwr b hb))))
  have keepF : ∀ {h' h₁ m'}, Fr g env.locals h' m' → (∀ b o, b ∉ wr → h'.get? b = some o → h₁.get? b = some o) → Fr g env.locals h₁ m' := fun F' k =>
    ⟨F'.ns.at fun o e => k _ o hLw e, fun b o e => k b o (fresh F' b o e) (F'.keep b o e), F'.above⟩
  have keepI : ∀ {i h' h₁ m'}, Fr g env.locals h' m' → St i h' → Inv c h' → (∀ b o, b ∉ wr → h'.get? b = some o → h₁.get? b = some o) → Inv c h₁ := fun F' st I' k =>
    I'.but (fun b => b ∈ wr) (fun b o e hb => k b o hb e) (fun b hb => Nat.le_trans Z.tl (Nat.le_of_lt (hwr b hb))) (fun b o hb e hc => hcw _ _ st b hb o e hc) (Nat.le_trans Z.tl (Nat.le_of_lt (keepF F' k).ns.lt))
  refine codeAny_forLoop_any (fun k s' => ∃ m' i, Fr g env.locals s'.heap m' ∧ Inv c s'.heap ∧ St i s'.heap ∧ J i m' s' ∧ i ≤ n ∧ k = n + 1 - i) ?_ (n + 1) ⟨m, 0, F, I, hst, h0, Nat.zero_le _, rfl⟩
  rintro k s' ⟨m', i, F', I', st', hj, hi, rfl⟩
  by_cases hlt : i < n
  · refine W.item i _ _ _ hlt st' fun v h₁ tk₁ hP hst₁ hk₁ => ?_
    refine wpAny_pure ?_
    have F₁ := keepF F' hk₁
    have I₁ := keepI F' st' I' hk₁
    refine wpAny_assign_Name (wpAny_storeName_local hxv F₁.ns (fun h₂ hn₂ hs₂ => ?_) hp)
    replace hs₂ : Heap.SameBut env.locals h₁ h₂ := hs₂
    have F₂ := F₁.set hn₂ hs₂
    have I₂ : Inv c h₂ := by
      refine I₁.but (fun b => b = env.locals) (fun b o e hb => hs₂.extBut b o hb e) (fun b hb => by rw [hb]; exact Z.tl) (fun b o hb e hc => ?_) (Nat.le_trans Z.tl (Nat.le_of_lt hn₂.lt))
      obtain ⟨oL, es, ep, eL, hdL, _⟩ := F₁.ns
      obtain ⟨vs, _, _, hv, _⟩ := hc
      rw [hb, eL] at e; cases e; rw [hdL] at hv; cases hv
    have st₂ : St (i + 1) h₂ := W.frame _ _ _ hst₁ fun b hb o e => hs₂.extBut b o (fun z => hLf (z ▸ hb)) e
    have hj₂ := hJ i m' s' h₂ (tk₁ + 1) hj fun b o hb hb2 e => hs₂.extBut b o hb2 (hk₁ b o hb e)
    refine wpAny_mono (step i v m' { s' with heap := h₂, toks := tk₁ + 1 } hlt hP hj₂ I₂ st₂ F₂) (fun f s₃ h₃ => ?_) fun _ _ x => x.elim
    have again : TurnW c g env.locals St J (i + 1) s₃ → ∃ k, k < n + 1 - i ∧ ∃ m' i, Fr g env.locals s₃.heap m' ∧ Inv c s₃.heap ∧ St i s₃.heap ∧ J i m' s₃ ∧ i ≤ n ∧ k = n + 1 - i := by
      rintro ⟨⟨m₂, F₃, hj₃⟩, I₃, st₃⟩
      exact ⟨n + 1 - (i + 1), by omega, m₂, i + 1, F₃, I₃, st₃, hj₃, hlt, rfl⟩
    cases f with
    | next => exact again h₃
    | cont => exact again h₃
    | brk => exact h₃
    | ret v => exact h₃
  · have hin : i = n := by omega
    subst hin
    refine W.done _ _ _ st' fun h₁ tk₁ hk₁ => wpAny_execs_nil ?_
    exact hR _ m' (keepI F' st' I' hk₁) (keepF F' hk₁) (hJ _ _ _ _ _ hj fun b o hb _ e => hk₁ b o hb e)
end Mine

end
section
open PySem PySem.W PyProof.Rows PySem.Calls PySem.Spec
namespace Mine
def text (ts : List Str) : Str := ⟨(flat ts).toArray⟩
theorem text_list (ts : List Str) : (text ts).cps.toList = flat ts := List.toList_toArray ..
theorem flat_len : ∀ (ts : List Str), (∀ t ∈ ts, UnitOk t) → (flat ts).length ≤ 2 * ts.length
  | [], _ => Nat.le_refl _
  | t :: r, h => by
    have ih := flat_len r fun u hu => h u (List.mem_cons_of_mem _ hu)
    rw [flat_cons, List.length_append, List.length_cons]
    rcases h t (List.mem_cons_self ..) with ⟨d, rfl, _⟩ | ⟨d, rfl, _⟩
    · show 1 + _ ≤ _; omega
    · show 2 + _ ≤ _; omega
theorem flat_mem {ts : List Str} (h : ∀ t ∈ ts, UnitOk t) : ∀ y ∈ flat ts, y < 128 ∧ y ≠ 34 := by
  intro y hy
  obtain ⟨t, ht, hyt⟩ := List.mem_flatMap.mp hy
  rcases h t ht with ⟨d, rfl, h1, h2, h3⟩ | ⟨d, rfl, h1, h2⟩
  · have : y = d := by simpa using hyt
    subst this; exact ⟨h1, h2⟩
  · have : y = 92 ∨ y = d := by simpa using hyt
    rcases this with rfl | rfl
    · exact ⟨by decide, by decide⟩
    · exact ⟨h1, h2⟩
theorem text_ok {ts : List Str} (h : ∀ t ∈ ts, UnitOk t) (hl : ts.length ≤ 1000) : TextOk (text ts) := by
  refine ⟨fun y hy => (flat_mem h y (by rwa [text_list] at hy)).2, ?_, by rw [text_list]; exact end_flat ts h, ?_⟩
  · rw [Array.all_eq_true_iff_forall_mem]
    intro y hy
    exact decide_eq_true (flat_mem h y (by rw [← text_list]; exact Array.mem_toList_iff.mpr hy)).1
  · have := flat_len ts h
    show (flat ts).toArray.size ≤ 2 ^ 24
    rw [List.size_toArray]
    omega

inductive Tree where
  | leaf (x : Str)
  | node (sign : Str) (a b : Tree)
abbrev sM : Str := Str.ofString "-"
abbrev sD : Str := Str.ofString "/"
abbrev sO : Str := Str.ofString "("
abbrev sC : Str := Str.ofString ")"
def readO : Nat → List Str → Option Tree
  | 0, _ => none
  | n + 1, ts => match (hitsT sM [] ts).getLast? with
    | some k => match readO n (ts.take k), readO n (ts.drop (k + 1)) with
      | some a, some b => some (.node sM a b)
      | _, _ => none
    | none => match (hitsT sD [] ts).getLast? with
      | some k => match readO n (ts.take k), readO n (ts.drop (k + 1)) with
        | some a, some b => some (.node sD a b)
        | _, _ => none
      | none => if ts.head? = some sO then (if ts.tail.getLast? = some sC then readO n ts.tail.dropLast else none) else some (.leaf (text ts))


/-- a tree in the heap; its lists lie where S says -/
def TreeAt (S : Addr → Prop) (h : Heap) : Tree → Value → Prop
  | .leaf x, v => ∃ t, v = .str x t
  | .node sg a b, v => ∃ l t va vb n, v = .ref l ∧ S l ∧ h.get? l = some { cls := .type "list", data := .seq #[.str sg t, va, vb] n } ∧ TreeAt S h a va ∧ TreeAt S h b vb
theorem TreeAt.keeps {S : Addr → Prop} {h h' : Heap} (st : ∀ b o, S b → h.get? b = some o → h'.get? b = some o) : ∀ {tr : Tree} {v : Value}, TreeAt S h tr v → TreeAt S h' tr v
  | .leaf _, _, x => x
  | .node _ _ _, _, ⟨l, t, va, vb, n, h1, h2, h3, h4, h5⟩ => ⟨l, t, va, vb, n, h1, h2, st _ _ h2 h3, h4.keeps st, h5.keeps st⟩
theorem TreeAt.mono {S S' : Addr → Prop} {h : Heap} (hl : ∀ b, S b → h.get? b ≠ none → S' b) : ∀ {tr : Tree} {v : Value}, TreeAt S h tr v → TreeAt S' h tr v
  | .leaf _, _, x => x
  | .node _ _ _, _, ⟨l, t, va, vb, n, h1, h2, h3, h4, h5⟩ => ⟨l, t, va, vb, n, h1, hl _ h2 (by rw [h3]; nofun), h3, h4.mono hl, h5.mono hl⟩
abbrev From (lo : Nat) : Addr → Prop := fun b => lo ≤ b
theorem TreeAt.stable {lo : Nat} {h h' : Heap} (st : Stable lo h h') {tr : Tree} {v : Value} (x : TreeAt (From lo) h tr v) : TreeAt (From lo) h' tr v := x.keeps fun b o hb e => st b o e (.inl hb)
theorem TreeAt.le {lo lo' : Nat} {h : Heap} (hl : lo' ≤ lo) {tr : Tree} {v : Value} (x : TreeAt (From lo) h tr v) : TreeAt (From lo') h tr v := x.mono fun _ hb _ => Nat.le_trans hl hb
structure IsTree (lo : Nat) (tr : Tree) (v : Value) (s : Shared) : Prop where
  tree : TreeAt (From lo) s.heap tr v
theorem hits_text {ts : List Str} (hu : ∀ t ∈ ts, UnitOk t) (ch : Nat) : (hitsU (text ts).cps.toList ⟨#[ch]⟩ (unitsE 0 false (text ts).cps.toList)).getLast? = ((hitsT ⟨#[ch]⟩ [] ts).getLast?).map fun k => (flat (ts.take k)).length := by
  rw [text_list, units_flat ts 0 hu]
  have := hits_tokens ⟨#[ch]⟩ ⟨ch, rfl⟩ ts [] hu
  rw [show ([] : List Str) ++ ts = ts from rfl, show (flat []).length = 0 from rfl] at this
  rw [this, List.getLast?_map]
theorem sM_is : sM = ⟨#[45]⟩ := by decide +kernel
theorem sD_is : sD = ⟨#[47]⟩ := by decide +kernel
theorem sign_cases {i ch : Nat} (h : (Str.ofString "-/").cps[i]? = some ch) : (i = 0 ∧ ch = 45) ∨ (i = 1 ∧ ch = 47) := by
  rw [show (Str.ofString "-/").cps = #[45, 47] by decide +kernel] at h
  match i, h with
  | 0, h => cases h; exact .inl ⟨rfl, rfl⟩
  | 1, h => cases h; exact .inr ⟨rfl, rfl⟩
  | n + 2, h => simp at h

theorem hitsT_at (sign : Str) : ∀ (rest pre : List Str) (k : Nat), k ∈ hitsT sign pre rest → pre.length ≤ k ∧ rest[k - pre.length]? = some sign
  | [], _, _, h => by cases h
  | t :: r, pre, k, h => by
    have step : k ∈ hitsT sign (pre ++ [t]) r → pre.length ≤ k ∧ (t :: r)[k - pre.length]? = some sign := fun h => by
      obtain ⟨h1, h2⟩ := hitsT_at sign r (pre ++ [t]) k h
      rw [List.length_append, List.length_singleton] at h1 h2
      refine ⟨by omega, ?_⟩
      rw [show k - pre.length = (k - (pre.length + 1)) + 1 by omega, List.getElem?_cons_succ]; exact h2
    rw [hitsT] at h
    split at h
    · rename_i ht
      rcases List.mem_cons.mp h with rfl | h
      · exact ⟨Nat.le_refl _, by rw [Nat.sub_self, List.getElem?_cons_zero, ht.1]⟩
      · exact step h
    · exact step h
theorem last_at {sign : Str} {ts : List Str} {k : Nat} (h : (hitsT sign [] ts).getLast? = some k) : ts[k]? = some sign := by
  have := (hitsT_at sign ts [] k (List.mem_of_getLast? h)).2
  rwa [List.length_nil, Nat.sub_zero] at this

theorem split_at {ts : List Str} {k d : Nat} (h : ts[k]? = some (⟨#[d]⟩ : Str)) : flat ts = flat (ts.take k) ++ d :: flat (ts.drop (k + 1)) := by
  obtain ⟨hl, e⟩ := List.getElem?_eq_some_iff.mp h
  have e2 : ts = ts.take k ++ ts[k] :: ts.drop (k + 1) := by
    rw [← List.drop_eq_getElem_cons hl, List.take_append_drop]
  have := congrArg flat e2
  rw [flat_app, flat_cons, e] at this
  exact this
theorem text_take {ts : List Str} {k d : Nat} (h : ts[k]? = some (⟨#[d]⟩ : Str)) : Txt.slice (text ts) none (some ((flat (ts.take k)).length : Int)) = text (ts.take k) := by
  have e := split_at h
  rw [slice_take (by rw [text_list, e, List.length_append]; omega), text_list, e, List.take_left]; rfl
theorem text_drop {ts : List Str} {k d : Nat} (h : ts[k]? = some (⟨#[d]⟩ : Str)) : Txt.slice (text ts) (some (((flat (ts.take k)).length : Int) + 1)) none = text (ts.drop (k + 1)) := by
  have e := split_at h
  have hl : (flat ts).length = (flat (ts.take k)).length + 1 + (flat (ts.drop (k + 1))).length := by
    have := congrArg List.length e
    rw [List.length_append, List.length_cons] at this; omega
  have := eq_of_beq (slice_closes_from (x := text ts) (i := ((flat (ts.take k)).length : Int) + 1) ⟨by omega, by rw [text_list, hl]; push_cast; omega⟩)
  rw [this, text_list]
  have e1 : (((flat (ts.take k)).length : Int) + 1).toNat = (flat (ts.take k)).length + 1 := by omega
  have e2 : (((flat ts).length : Int) - (((flat (ts.take k)).length : Int) + 1)).toNat = (flat (ts.drop (k + 1))).length := by rw [hl]; push_cast; omega
  rw [e1, e2]
  have e3 : (flat ts).drop ((flat (ts.take k)).length + 1) = flat (ts.drop (k + 1)) := by
    have := congrArg (List.drop ((flat (ts.take k)).length + 1)) e
    rw [this, ← List.drop_drop, List.drop_left]; rfl
  rw [e3, List.take_length]; rfl
theorem sO_is : sO = ⟨#[40]⟩ := by decide +kernel
theorem sC_is : sC = ⟨#[41]⟩ := by decide +kernel
theorem text_inner {ts : List Str} (h1 : ts.head? = some sO) (h2 : ts.tail.getLast? = some sC) : Txt.slice (text ts) (some 1) (some (-1)) = text ts.tail.dropLast := by
  obtain ⟨r, rfl⟩ : ∃ r, ts = sO :: r := by
    cases ts with
    | nil => cases h1
    | cons a r => exact ⟨r, by rw [List.head?_cons] at h1; cases h1; rfl⟩
  rw [List.tail_cons] at h2 ⊢
  obtain ⟨q, rfl⟩ := List.getLast?_eq_some_iff.mp h2
  rw [List.dropLast_concat]
  have ef : flat (sO :: (q ++ [sC])) = 40 :: flat q ++ [41] := by
    rw [flat_cons, flat_app, sO_is, sC_is]; rfl
  have hlen : (text (sO :: (q ++ [sC]))).length = (flat q).length + 2 := by
    show (text (sO :: (q ++ [sC]))).cps.size = _
    rw [← Array.length_toList, text_list, ef]; simp
  show StrLaws.sliceText _ _ _ = _
  rw [StrLaws.sliceText_neg_hi _ _ (by decide) (by rw [hlen]; omega), hlen]
  rw [StrLaws.sliceText_plain ⟨by decide, by omega, by rw [text_list, ef]; simp; omega⟩, text_list, ef]
  have e1 : (1 : Int).toNat = 1 := rfl
  have e2 : ((-1 : Int) + (((flat q).length + 2 : Nat) : Int) - 1).toNat = (flat q).length := by omega
  rw [e1, e2]
  show (⟨(((flat q ++ [41]).take (flat q).length)).toArray⟩ : Str) = _
  rw [List.take_left]; rfl
theorem text_first {ts : List Str} (hu : ∀ t ∈ ts, UnitOk t) : (Txt.slice (text ts) none (some 1) == sO) = decide (ts.head? = some sO) := by
  cases ts with
  | nil => decide +kernel
  | cons a r =>
    have hl : 1 ≤ (text (a :: r)).cps.toList.length := by
      rw [text_list, flat_cons, List.length_append]
      rcases hu a (List.mem_cons_self ..) with ⟨d, rfl, _⟩ | ⟨d, rfl, _⟩
      · show 1 ≤ 1 + _; omega
      · show 1 ≤ 2 + _; omega
    have := slice_take (n := 1) hl
    rw [show ((1 : Nat) : Int) = 1 from rfl] at this
    rw [this, text_list, flat_cons, sO_is]
    rcases hu a (List.mem_cons_self ..) with ⟨d, rfl, _⟩ | ⟨d, rfl, _⟩
    · show ((⟨#[d]⟩ : Str) == ⟨#[40]⟩) = _
      rw [Bool.eq_iff_iff, beq_iff_eq, decide_eq_true_iff, List.head?_cons, Option.some_inj]
    · show ((⟨#[92]⟩ : Str) == ⟨#[40]⟩) = _
      rw [Bool.eq_iff_iff, beq_iff_eq, decide_eq_true_iff, List.head?_cons, Option.some_inj]
      constructor
      · intro z; cases z
      · intro z; cases z
theorem readO_S (n : Nat) (ts : List Str) : readO (n + 1) ts = match (hitsT sM [] ts).getLast? with
    | some k => match readO n (ts.take k), readO n (ts.drop (k + 1)) with
      | some a, some b => some (.node sM a b)
      | _, _ => none
    | none => match (hitsT sD [] ts).getLast? with
      | some k => match readO n (ts.take k), readO n (ts.drop (k + 1)) with
        | some a, some b => some (.node sD a b)
        | _, _ => none
      | none => if ts.head? = some sO then (if ts.tail.getLast? = some sC then readO n ts.tail.dropLast else none) else some (.leaf (text ts)) := rfl
theorem newList_L {M : Model} {A : Around} {E : Value → Shared → Prop} {s : Shared} {h₀ : Heap} {L : Addr} {m : Str → Option Value} {news : List (Addr × Obj)} {vs : List Value} {Q : Value → Shared → Prop} (F : Fr h₀ L s.heap m) (N : News h₀ L s.heap news)
    (h : ∀ l h', Fr h₀ L h' m → News h₀ L h' ((l, PySem.W.listOf vs.toArray 0) :: news) → (∀ p ∈ news, p.1 < l) → L < l → Q (.ref l) { s with heap := h' }) (hsz : vs.length ≤ sizeLine := by size_fits) : wpAny M A (newList vs) Q E s :=
  newList_N F N (fun h' F' N' => h _ h' F' N' (fun p hp => Heap.lt_size (N p hp).1) F.ns.lt) hsz
end Mine

end
section
open PySem PySem.W PyProof.Rows PySem.Calls PySem.Spec
namespace Mine
theorem fillF4 : ∀ (w : World) (h : Heap), (hd.heap_39 w.params).In h → model PySem.Challenge.rw_ph0043_01.prog w = model PySem.Challenge.rw_ph0043_01.prog w := by
  k_fill
  intro w h _; rfl
structure ReadJ (s : Shared) (ts : List Str) (tkx : Tok) (i : Nat) (m' : Str → Option Value) (s' : Shared) : Prop where
  text : m' (Str.ofString "text") = some (.str (text ts) tkx)
  gens : ∀ (i : Nat) (x : GenState), s.gens[i]? = some x → s'.gens[i]? = some x
  bare : AllBare s.gens → AllBare s'.gens
  os : s'.os = s.os
  minus : 1 ≤ i → hitsT sM [] ts = []
  slash : 2 ≤ i → hitsT sD [] ts = []
set_option maxRecDepth 100000 in
set_option maxHeartbeats 4000000 in
theorem read_spec : ∀ (n : Nat) (ts : List Str) (tr : Tree), readO n ts = some tr → (∀ t ∈ ts, UnitOk t) → ts.length ≤ 1000 → ∀ (c : P0) (A : Around) (s : Shared) (tkx : Tok), Inv c s.heap → Rm A (12 + n) → 
    Calls c A (.ref 63) [.str (text ts) tkx] s (IsTree s.heap.objs.size tr) := by
  k_with_none
  k_with "getMethod ref" => refine Stop.out ?_
  k_with "m_inv" => exact Pt.inv (by assumption) (by assumption) (by k_asm) (by k_asm) (by walk_at "m_fz") (by walk_at "m_tab") (by walk_at "m_tab")
  k_with "newList" => (k_here; k_dflt (refine' newList_L ?zqk1 ?zqk2 ?_; (case zqk1 => k_asm); (case zqk2 => k_asm); k_whole); walk_at "m_t6")
  k_with "exec For" => (k_here; with_reducible refine wpAny_For ?_)
  k_with "exec For Name" => (k_here; with_reducible refine wpAny_For ?_)
  k_with "exec For Name Constant" => (k_here; with_reducible refine wpAny_For ?_)
  k_with "exec For Name Constant cons nil" => (k_here; with_reducible refine wpAny_For ?_)
  intro n
  induction n with
  | zero => intro ts tr hr; cases hr
  | succ n ih =>
  intro ts tr hr hu hl c A s tkx I hA R hR
  refine' enterM (binds := [(Str.ofString "text", .str (text ts) tkx)]) I ?k1 ?k2 hA.lt ?k4 ?k5 ?_ ?c2 ?c3 ?c4 ?c5
  case k1 => k_is
  case k2 => k_is
  case k4 => exact BindsTo.of_eq rfl
  case k5 => exact locs rfl
  case c2 => exact rfl
  case c3 => exact rfl
  case c4 => exact rfl
  case c5 => decide
  intro g L h₁ p q fz AA hAA Z F N P ext X T
  have hA1 := hAA (12 + n) (hA.le (by omega))
  have hsz := (text_ok hu hl).sz
  show wpAny _ _ _ _ _ _
  k_fold
  refine wpAny_execs_cons ?_
  refine wpAny_For ?_
  k_fold
  k_steps
  refine wpAny_pyIter_strU ?_
  dsimp only
  have hty : strIterType (Str.ofString "-/") = "str_ascii_iterator" := by decide +kernel
  rw [hty]
  have hL1 := F.ns.lt
  have kp : ∀ b o, h₁.get? b = some o → (h₁.push { cls := .type "str_ascii_iterator", data := .fields #[.str (Str.ofString "-/") (s.toks + 1), .int 0 0] }).get? b = some o := fun b o e => Heap.get?_push_of_some _ e
  have I1 := Pt.inv Z P F N (by walk_at "m_fz") (by walk_at "m_tab") (by walk_at "m_tab")
  refine walk_loop (Walks.strAscii hA1.handled h₁.objs.size (Str.ofString "-/") (s.toks + 1)) Z rfl rfl rfl (fun b hb => by cases List.mem_singleton.mp hb; exact hL1) (fun i h st b hb o e hc => ?_) (fun hb => by cases List.mem_singleton.mp hb; exact Nat.lt_irrefl _ hL1)
    (ReadJ s ts tkx) (fun i m' s' h' tk j _ => ⟨j.text, j.gens, j.bare, j.os, j.minus, j.slash⟩) (F.push _) (I1.keeps kp (by rw [Heap.size_push]; exact Nat.le_succ_of_le I1.size)) ⟨_, Heap.get?_push_size _ rfl, rfl, rfl⟩
    ⟨rfl, fun _ _ e => e, fun e => e, rfl, fun h => by omega, fun h => by omega⟩ (fun i v m₁ s₁ hi hv hj I₁ st₁ F₁ => ?_) (fun s' m' I' F' hj => ?_)
  · cases List.mem_singleton.mp hb
    obtain ⟨o', h1, _, h2⟩ := st
    rw [h1] at e; cases e
    obtain ⟨vs, q', t', hd', hv'⟩ := hc
    rw [h2] at hd'; cases hd'; cases hv'
  · obtain ⟨ch, tu, hch, rfl⟩ := hv
    rw [map_as hj.text] at F₁
    obtain ⟨p1, q1, fz1, N1, P1⟩ := renew Z F₁ (own := []) News.nil (fun _ hx => by cases hx) I₁
    clear F N P
    show wpAny _ _ _ _ _ _
    k_fold
    k_steps
    rename Fr _ _ _ _ => F2
    rename News _ _ _ _ => N2
    have hL2 := F2.ns.lt
    refine Calls.use (finder_spec c AA _ ⟨#[ch]⟩ tu (Pt.inv Z P1 F2 N2 (by walk_at "m_fz") (by walk_at "m_tab") (by walk_at "m_tab")) (hA1.le (by omega)) ⟨ch, rfl⟩) fun v s2 b2 hv2 => ?_
    obtain ⟨fi, rfl, HF⟩ := hv2.ex
    obtain ⟨F3, p3, q3, fz3, N3, P3⟩ := after_step [] Z F2 N2 (fun _ h => by cases h) b2
    have hg1 : c.gT.objs.size ≤ L + 1 := Nat.le_trans Z.tl (Nat.le_succ _)
    have S2 := (P1.stable Z F2 N2 (by intro y hy; simp [hy]) (Nat.lt_succ_self L)).trans (b2.stable (Pt.inv Z P1 F2 N2 (by walk_at "m_fz") (by walk_at "m_tab") (by walk_at "m_tab")) hg1)
    clear F2 N2 P1
    show wpAny _ _ _ _ _ _
    k_fold
    k_steps
    refine len_str (by have h24 : (text ts).length ≤ 2 ^ 24 := hsz; omega) ?_
    k_steps
    rename Fr _ _ _ _ => F4
    rename News _ _ _ _ => N4
    have hL4 := F4.ns.lt
    have I4 := Pt.inv Z P3 F4 N4 (by walk_at "m_fz") (by walk_at "m_tab") (by walk_at "m_tab")
    refine Calls.use (reverse_spec c AA _ _ fi ⟨#[ch]⟩ (text ts) tkx _ I4 (hA1.le (by omega)) (HF.stable (P3.stable Z F4 N4 (by intro y hy; simp [hy]) hL2)) (text_ok hu hl)) fun v s5 b5 hv5 => ?_
    replace hv5 := hv5.ex
    rw [hits_text hu ch] at hv5
    have hg5 : ∀ (i : Nat) (x : GenState), s.gens[i]? = some x → s5.gens[i]? = some x := fun i y e => b5.gens i y (b2.gens i y (hj.gens i y e))
    have hb5 : AllBare s.gens → AllBare s5.gens := fun e => b5.bare (b2.bare (hj.bare e))
    have ho5 : s5.os = s.os := b5.os.trans (b2.os.trans hj.os)
    obtain ⟨F5, p5, q5, fz5, N5, P5⟩ := after_step (s₁ := { s2 with toks := s2.toks + 1 + 1 }) [] Z F4 N4 (fun _ h => by cases h) b5
    have S5 := (S2.trans (P3.stable Z F4 N4 (by intro y hy; simp [hy]) (Nat.lt_succ_self L))).trans (b5.stable I4 hg1)
    cases hk : (hitsT ⟨#[ch]⟩ [] ts).getLast? with
    | none =>
      rw [hk] at hv5
      replace hv5 : v = .none := hv5
      subst hv5
      clear F4 N4 P3
      show wpAny _ _ _ _ _ _
      k_fold
      k_steps
      rename Fr _ _ _ _ => F6
      rename News _ _ _ _ => N6
      have S6 := S5.trans (P5.stable Z F6 N6 (by intro y hy; simp [hy]) (Nat.lt_succ_self L))
      refine ⟨⟨_, F6, rfl, hg5, hb5, ho5, fun h => ?_, fun h => ?_⟩, Pt.inv Z P5 F6 N6 (by walk_at "m_fz") (by walk_at "m_tab") (by walk_at "m_tab"), ?_⟩
      · rcases sign_cases hch with ⟨rfl, rfl⟩ | ⟨rfl, rfl⟩
        · rw [sM_is]; exact List.getLast?_eq_none_iff.mp hk
        · exact hj.minus (Nat.le_refl _)
      · rcases sign_cases hch with ⟨rfl, rfl⟩ | ⟨rfl, rfl⟩
        · omega
        · rw [sD_is]; exact List.getLast?_eq_none_iff.mp hk
      · obtain ⟨o', e1, r1⟩ := st₁
        exact ⟨o', S6 _ _ e1 (.inl hL1), r1⟩
    | some k =>
      rw [hk] at hv5
      replace hv5 : ∃ f, v = .ref f ∧ HitAt c _ s5.heap f ((flat (ts.take k)).length : Nat) := hv5
      obtain ⟨fm, rfl, H5⟩ := hv5
      clear F4 N4 P3
      have hsg : (⟨#[ch]⟩ : Str) = sM ∨ (⟨#[ch]⟩ : Str) = sD := by
        rcases sign_cases hch with ⟨_, rfl⟩ | ⟨_, rfl⟩
        · exact .inl sM_is.symm
        · exact .inr sD_is.symm
      have hat := last_at hk
      obtain ⟨ta, tb, ra, rb, rfl⟩ : ∃ ta tb, readO n (ts.take k) = some ta ∧ readO n (ts.drop (k + 1)) = some tb ∧ tr = .node ⟨#[ch]⟩ ta tb := by
        rw [readO_S] at hr
        rcases sign_cases hch with ⟨rfl, rfl⟩ | ⟨rfl, rfl⟩
        · rw [sM_is, hk] at hr
          dsimp only at hr
          split at hr
          · rename_i a b h1 h2
            cases hr
            exact ⟨a, b, h1, h2, rfl⟩
          · cases hr
        · rw [hj.minus (Nat.le_refl _), sD_is, hk] at hr
          dsimp only [List.getLast?_nil] at hr
          split at hr
          · rename_i a b h1 h2
            cases hr
            exact ⟨a, b, h1, h2, rfl⟩
          · cases hr
      show wpAny _ _ _ _ _ _
      k_fold
      k_steps
      rename Fr _ _ _ _ => F6
      rename News _ _ _ _ => N6
      have hL6 := F6.ns.lt
      have I6 := Pt.inv Z P5 F6 N6 (by walk_at "m_fz") (by walk_at "m_tab") (by walk_at "m_tab")
      have H6 := H5.stable (P5.stable Z F6 N6 (by intro y hy; simp [hy]) hL4)
      obtain ⟨fd, sl, d, md, fs, a1, a2, a3, a4, a5, a7, hfn, a6⟩ := H6.obj
      refine Stop.mk ?_
      refine fn_getMethod a1 a2 a3 f_span rfl ?_
      refine callWith_F0 hfn ?_
      refine Calls.use (a6 AA _ I6 (Stable.refl _ _) (hA1.le (by omega))) fun v s7 b7 hv => ?_
      obtain ⟨t, ti, tj, rfl, ht0, ht⟩ := hv.ex
      obtain ⟨F7, p7, q7, fz7, N7, P7⟩ := after_fresh [] Z F6 N6 (fun _ h => by cases h) I6 b7 ht ht0 (not_code_seq rfl)
      have hg7 : ∀ (i : Nat) (x : GenState), s.gens[i]? = some x → s7.gens[i]? = some x := fun i y e => b7.gens i y (hg5 i y e)
      have hb7 : AllBare s.gens → AllBare s7.gens := fun e => b7.bare (hb5 e)
      have ho7 : s7.os = s.os := b7.os.trans ho5
      clear a1 a2 a3 a4 a5 a7 hfn a6 H6 F6 N6 P5
      show wpAny _ _ _ _ _ _
      k_fold
      k_steps
      rename Fr _ _ _ _ => F8
      rename News _ _ _ _ => N8
      rw [text_take hat]
      have I8 := Pt.inv Z P7 F8 N8 (by walk_at "m_fz") (by walk_at "m_tab") (by walk_at "m_tab")
      have hL8 := F8.ns.lt
      refine Calls.use (ih _ ta ra (fun t ht => hu t (List.mem_of_mem_take ht)) (by rw [List.length_take]; omega) c AA _ _ I8 hA1) fun va s9 b9 hv => ?_
      have TA := hv.tree.le hL8
      try dsimp only at TA
      obtain ⟨F9, p9, q9, fz9, N9, P9⟩ := after_step [] Z F8 N8 (fun _ h => by cases h) b9
      have hg9 : ∀ (i : Nat) (x : GenState), s.gens[i]? = some x → s9.gens[i]? = some x := fun i y e => b9.gens i y (hg7 i y e)
      have hb9 : AllBare s.gens → AllBare s9.gens := fun e => b9.bare (hb7 e)
      have ho9 : s9.os = s.os := b9.os.trans ho7
      clear F8 N8 P7 I8
      show wpAny _ _ _ _ _ _
      k_fold
      k_steps
      rename Fr _ _ _ _ => F10
      rename News _ _ _ _ => N10
      rw [text_drop hat]
      have I10 := Pt.inv Z P9 F10 N10 (by walk_at "m_fz") (by walk_at "m_tab") (by walk_at "m_tab")
      have hL10 := F10.ns.lt
      have TA10 := TA.stable (P9.stable Z F10 N10 (by intro y hy; simp [hy]) (Nat.lt_succ_self L))
      refine Calls.use (ih _ tb rb (fun t ht => hu t (List.mem_of_mem_drop ht)) (by rw [List.length_drop]; omega) c AA _ _ I10 hA1) fun vb s11 b11 hv => ?_
      have TB := hv.tree.le hL10
      try dsimp only at TB
      have TA11 := TA10.stable (b11.stable I10 hg1)
      obtain ⟨F11, p11, q11, fz11, N11, P11⟩ := after_step [] Z F10 N10 (fun _ h => by cases h) b11
      have hg11 : ∀ (i : Nat) (x : GenState), s.gens[i]? = some x → s11.gens[i]? = some x := fun i y e => b11.gens i y (hg9 i y e)
      have hb11 : AllBare s.gens → AllBare s11.gens := fun e => b11.bare (hb9 e)
      have ho11 : s11.os = s.os := b11.os.trans ho9
      clear F10 N10 P9 I10 TA10 TA
      show wpAny _ _ _ _ _ _
      k_fold
      k_steps
      rename Fr _ _ _ _ => F12
      rename News _ _ _ _ => N12
      rename L < _ => lL
      have S12 := P11.stable Z F12 N12 (by intro y hy; simp [hy]) (Nat.lt_succ_self L)
      exact hR _ _ (fin (s' := Shared.mk _ _ _ _ _) Z F12 (Pt.inv Z P11 F12 N12 (by walk_at "m_fz") (by walk_at "m_tab") (by walk_at "m_tab")) hg11 hb11 ho11)
        ⟨⟨_, tu, va, vb, _, rfl, Nat.le_trans Z.le (Nat.le_of_lt lL), (N12 _ (List.mem_cons_self ..)).1, (TA11.stable S12).le (Nat.le_trans Z.le (Nat.le_succ _)), (TB.stable S12).le (Nat.le_trans Z.le (Nat.le_succ _))⟩⟩
  · rw [map_as hj.text] at F'
    obtain ⟨p1, q1, fz1, N1, P1⟩ := renew Z F' (own := []) News.nil (fun _ hx => by cases hx) I'
    have hm := hj.minus (by decide)
    have hs := hj.slash (by decide)
    rw [readO_S, hm, hs] at hr
    dsimp only [List.getLast?_nil] at hr
    have hf := text_first hu
    clear F N P
    cases hd1 : decide (ts.head? = some sO) with
    | true =>
      rw [hd1] at hf
      have hh := of_decide_eq_true hd1
      rw [if_pos hh] at hr
      split at hr
      · rename_i hl2
        show wpAny _ _ _ _ _ _
        skip
        k_steps
        rename Fr _ _ _ _ => F2
        rename News _ _ _ _ => N2
        rw [text_inner hh hl2]
        have I2 := Pt.inv Z P1 F2 N2 (by walk_at "m_fz") (by walk_at "m_tab") (by walk_at "m_tab")
        have hL2 := F2.ns.lt
        refine Calls.use (ih _ tr hr (fun t ht => hu t (List.mem_of_mem_tail (List.dropLast_subset _ ht))) (by rw [List.length_dropLast, List.length_tail]; omega) c AA _ _ I2 hA1) fun v s3 b3 hv => ?_
        have TA := hv.tree.le (Nat.le_trans Z.le (Nat.le_of_lt hL2))
        obtain ⟨F3, p3, q3, fz3, N3, P3⟩ := after_step [] Z F2 N2 (fun _ h => by cases h) b3
        exact hR _ _ (fin Z F3 b3.inv (fun i y e => b3.gens i y (hj.gens i y e)) (fun e => b3.bare (hj.bare e)) (b3.os.trans hj.os)) ⟨TA⟩
      · cases hr
    | false =>
      rw [hd1] at hf
      rw [if_neg (of_decide_eq_false hd1)] at hr
      cases hr
      show wpAny _ _ _ _ _ _
      k_steps
      rename Fr _ _ _ _ => F2
      rename News _ _ _ _ => N2
      exact hR _ _ (fin (s' := Shared.mk _ _ _ _ _) Z F2 (Pt.inv Z P1 F2 N2 (by walk_at "m_fz") (by walk_at "m_tab") (by walk_at "m_tab")) hj.gens hj.bare hj.os) ⟨⟨_, rfl⟩⟩
end Mine

end
section
open PySem PySem.W PyProof.Rows PySem.Calls PySem.Spec
namespace Mine
theorem TreeAt.inFn {c : P0} {h g h' : Heap} {L lo : Nat} {m : Str → Option Value} {tr : Tree} {v : Value} (x : TreeAt (From lo) h tr v) (Z : Fn c h g L) (F : Fr g L h' m) (hlo : c.gT.objs.size ≤ lo) : TreeAt (From lo) h' tr v :=
  x.keeps fun b o hb e => by
    have hb' : lo ≤ b := hb
    have h1 : 51 < b := Nat.lt_of_lt_of_le c.lt (Nat.le_trans hlo hb')
    exact F.keep b o (Z.old b o e (Nat.ne_of_gt (Nat.lt_trans (by decide) h1)) (Nat.ne_of_gt h1))
theorem ne_lo {lo l : Nat} (h : 51 < lo) (h2 : lo ≤ l) : (l : Addr) ≠ (44 : Addr) ∧ (l : Addr) ≠ (51 : Addr) :=
  have h1 : 51 < l := Nat.lt_of_lt_of_le h h2
  ⟨Nat.ne_of_gt (Nat.lt_trans (by decide) h1), Nat.ne_of_gt h1⟩
theorem not_code_list {xs : Array Value} {n : Nat} : ¬ CodeLike (PySem.W.listOf xs n) := by
  rintro ⟨vs, q, t, hd, _⟩; cases hd
/-- a call gave a fresh list of texts -/
structure TxtsIs (lo : Nat) (ts : List Str) (v : Value) (s : Shared) : Prop where
  ex : ∃ l vs n, v = .ref l ∧ lo ≤ l ∧ s.heap.get? l = some (PySem.W.listOf vs.toArray n) ∧ StrsAre vs ts

def Tree.isMinus : Tree → Bool
  | .leaf _ => false
  | .node sg _ _ => sg == sM
def Tree.isNode : Tree → Bool
  | .leaf _ => false
  | .node _ _ _ => true
def toks : Tree → List Str
  | .leaf x => [x]
  | .node sg a b =>
    (if (sg == sD) = true ∧ a.isMinus = true then [sO] ++ toks a ++ [sC] else toks a) ++ [sg] ++ (if b.isNode = true ∧ ((sg == sD) = true ∨ b.isMinus = true) then [sO] ++ toks b ++ [sC] else toks b)
theorem toks_a (sg : Str) (a b : Tree) : (toks a).length + 1 ≤ (toks (.node sg a b)).length := by
  rw [toks]
  split <;> simp only [List.length_append, List.length_cons, List.length_nil] <;> omega
theorem toks_b (sg : Str) (a b : Tree) : (toks b).length + 1 ≤ (toks (.node sg a b)).length := by
  rw [toks]
  split <;> split <;> simp only [List.length_append, List.length_cons, List.length_nil] <;> omega

/-- a leaf: a unit that is no bare sign -/
def LeafOk (x : Str) : Prop := UnitOk x ∧ x ≠ sM ∧ x ≠ sD ∧ x ≠ sO ∧ x ≠ sC
def Tree.Ok : Tree → Prop
  | .leaf x => LeafOk x
  | .node sg a b => (sg = sM ∨ sg = sD) ∧ a.Ok ∧ b.Ok
def Tree.depth : Tree → Nat
  | .leaf _ => 0
  | .node _ a b => max a.depth b.depth + 1

/-- the first item of a tree's value: the sign, or the text's first sign, no minus -/
theorem leaf_first {x : Str} (h : LeafOk x) : ∃ d, x.cps[0]? = some d ∧ d ≠ 45 := by
  rcases h.1 with ⟨d, rfl, _⟩ | ⟨d, rfl, _⟩
  · refine ⟨d, rfl, fun z => h.2.1 ?_⟩
    rw [z, sM_is]
  · exact ⟨92, rfl, by decide⟩

section
variable {prog : Program} {w : World} {A : Around} {E : Value → Shared → Prop} {s : Shared} {h₀ : Heap} {L : Addr} {m : Str → Option Value} {news : List (Addr × Obj)}
theorem add_LL {a b : Addr} {xs ys : List Value} {n k : Nat} {Q : Value → Shared → Prop} (F : Fr h₀ L s.heap m) (N : News h₀ L s.heap news) (ha : (a, PySem.W.listOf xs.toArray n) ∈ news) (hb : (b, PySem.W.listOf ys.toArray k) ∈ news)
    (h : ∀ l h', Fr h₀ L h' m → News h₀ L h' ((l, PySem.W.listOf (xs ++ ys).toArray 0) :: news) → (∀ p ∈ news, p.1 < l) → L < l → Q (.ref l) { s with heap := h' }) (hsz : xs.length + ys.length ≤ sizeLine) :
    wpAny (model prog w) A (binaryOp .Add (.ref a) (.ref b)) Q E s :=
  PySem.P.add_list (N _ ha).1 (N _ hb).1 (by
    rw [List.append_toArray]
    exact h _ _ (F.push _) (N.push F _ rfl) (fun p hp => Heap.lt_size (N p hp).1) F.ns.lt) (by rw [List.size_toArray, List.size_toArray]; exact hsz)
theorem item_first {value slice : Expr} {x : Str} {t u : Tok} {d : Nat} {Q : Value → Shared → Prop} (hd : x.cps[0]? = some d) (h : ∀ t' k, Q (.str ⟨#[d]⟩ t') { s with toks := k })
    (hs : subscripted slice false (.str x t) (.int 0 u) = operate [.str x t, .int 0 u] (getItem (.str x t) (.int 0 u)) := by with_unfolding_all rfl)
    (ht : ∀ r, letTemporaryGo value (.str x t) r = pure () := by intro _; with_unfolding_all rfl) :
    wpAny (model prog w) A (subscriptTail value slice (.str x t) (.int 0 u)) Q E s := by
  have hl : 0 < x.cps.size := (Array.getElem?_eq_some_iff.mp hd).1
  have e : Txt.item x 0 = ⟨#[d]⟩ := by
    unfold Txt.item Txt.charAt
    rw [StrLaws.at_nonneg (by decide) (show x.cps[(0 : Int).toNat]? = some d from hd)]; rfl
  exact item_str (by decide) (by show -((x.cps.size : Nat) : Int) ≤ 0; omega) (by show (0 : Int) < ((x.cps.size : Nat) : Int); omega) (fun _ => by rw [e]; exact h _ _) hs ht
end
end Mine

end
section
open PySem PySem.W PyProof.Rows PySem.Calls PySem.Spec
namespace Mine
theorem fillT2 : ∀ (w : World) (h : Heap), (hd.heap_39 w.params).In h → model PySem.Challenge.rw_ph0043_01.prog w = model PySem.Challenge.rw_ph0043_01.prog w := by
  k_fill
  intro w h _; rfl

def Hold (P : Prop) : Prop := P
structure BrMark (P : Shared → Prop) : Prop where
  ok : True
structure Br (g : Heap) (L : Addr) (s : Shared) (nm : Str) (m : Str → Option Value) (base : List (Addr × Obj)) (ts : List Str) (s' : Shared) : Prop where
  ex : ∃ (h : Heap) (tk : Nat) (l : Addr) (n : Nat) (xs : List Value), s' = { s with heap := h, toks := tk } ∧ Fr g L h (fun y => if y = nm then some (.ref l) else m y) ∧ News g L h ((l, PySem.W.listOf xs.toArray n) :: base) ∧ L < l ∧ StrsAre xs ts ∧ xs.length ≤ 1002
structure BrF (P : Shared → Prop) (f : Flow) (s' : Shared) : Prop where
  next : f = .next
  here : P s'
theorem if_br {M : Model} {A : Around} {E : Value → Shared → Prop} {s : Shared} {env : Env} {test : Expr} {body orelse : List Stmt} {pos : Pos} {Q : Flow → Shared → Prop} {P : Shared → Prop} (_ : BrMark P)
    (h : Hold (wpAny M A (isTrue test env (eval test env)) (fun b s₂ => if b then wpAny M A (execs body env) (BrF P) E s₂ else wpAny M A (execs orelse env) (BrF P) E s₂) E s))
    (k : Hold (∀ s', P s' → Q .next s')) : wpAny M A (exec (.If test body orelse pos) env) Q E s :=
  have kk : ∀ f s', BrF P f s' → Q f s' := fun f s' hf => by obtain ⟨rfl, hh⟩ := hf; exact k s' hh
  wpAny_If (wpAny_mono h (fun b s₂ hb => by
    cases b with
    | true => exact wpAny_mono hb kk (fun _ _ h => h)
    | false => exact wpAny_mono hb kk (fun _ _ h => h)) (fun _ _ h => h))
theorem br_end {g h' : Heap} {L l : Addr} {s : Shared} {nm : Str} {m m₀ : Str → Option Value} {base news : List (Addr × Obj)} {ts : List Str} {tk n : Nat} {xs : List Value} (F : Fr g L h' m₀) (N : News g L h' news)
    (hm : m₀ = fun y => if y = nm then some (.ref l) else m y) (m1 : (l, PySem.W.listOf xs.toArray n) ∈ news) (m2 : ∀ x ∈ base, x ∈ news) (hl : L < l) (hx : StrsAre xs ts) (hn : xs.length ≤ 1002) :
    BrF (Br g L s nm m base ts) .next { s with heap := h', toks := tk } :=
  ⟨rfl, ⟨_, _, l, n, xs, rfl, hm ▸ F, fun p hp => N p (by rcases List.mem_cons.mp hp with rfl | h; exact m1; exact m2 p h), hl, hx, hn⟩⟩
theorem tok_end {c : P0} {s : Shared} {g : Heap} {L l : Addr} {ts : List Str} {vs : List Value} {n : Nat} {R : Result → Shared → Prop} {s' : Shared} {h' : Heap} {tk : Nat} {m : Str → Option Value} {news : List (Addr × Obj)} (Z : Fn c s.heap g L)
    (hR : ∀ (v : Value) (s' : Shared), After c s s' → TxtsIs s.heap.objs.size ts v s' → R (.ok (.ret v)) s')
    (hg : ∀ (i : Nat) (x : GenState), s.gens[i]? = some x → s'.gens[i]? = some x) (hb : AllBare s.gens → AllBare s'.gens) (ho : s'.os = s.os)
    (F : Fr g L h' m) (I : Inv c h') (N : News g L h' ((l, PySem.W.listOf vs.toArray n) :: news)) (lL : L < l) (ht : StrsAre vs ts) : R (.ok (.ret (.ref l))) { s' with heap := h', toks := tk } :=
  hR _ _ (fin (s' := { s' with heap := h', toks := tk }) Z F I hg hb ho) ⟨_, _, _, rfl, Nat.le_trans Z.le (Nat.le_of_lt lL), (N _ (List.mem_cons_self ..)).1, ht⟩

set_option maxRecDepth 100000 in
set_option maxHeartbeats 4000000 in
theorem tokens_spec : ∀ (tr : Tree), tr.Ok → (toks tr).length ≤ 1000 → ∀ (c : P0) (A : Around) (s : Shared) (lo : Nat) (v : Value), c.gT.objs.size ≤ lo → TreeAt (From lo) s.heap tr v → Inv c s.heap → Rm A (5 + tr.depth) →
    Calls c A (.ref 70) [v] s (TxtsIs s.heap.objs.size (toks tr)) := by
  k_with_none
  k_with "m_inv" => exact Pt.inv (by assumption) (by assumption) (by k_asm) (by k_asm) (by walk_at "m_fz") (by walk_at "m_tab") (by walk_at "m_tab")
  k_with "assign Tuple" => (k_here; (with_reducible show wpAny _ _ (assign (Expr.Tuple _ _ _) _ (Value.ref _)) _ _ _); k_dflt (refine' unpackN_ ?zqF ?zqN ?zqT ?zqk1 ?zqk2 ?zqk3 ?_; (case zqF => k_asm); (case zqN => k_asm); (case zqT => (refine News.isTup (by k_asm) (by k_mem))); (case zqk1 => exact Rm.handled (by assumption)); (case zqk2 => exact rfl); (case zqk3 => exact rfl)); intro _ _ _)
  k_with "assign Tuple" => (k_here; (with_reducible show wpAny _ _ (assign (Expr.Tuple _ _ _) _ (Value.ref _)) _ _ _); k_dflt (refine' kun_list ?zqk1 ?zqk2 ?zqk3 ?zqk4 ?zqk5 ?zqk6 ?_; (case zqk1 => k_asm); (case zqk2 => k_asm); (case zqk3 => is_list); (case zqk4 => exact Rm.handled (by assumption)); (case zqk5 => exact rfl); (case zqk6 => exact rfl); k_whole); intro _ _ _)
  k_with "unpackItems ref" => (k_here; k_dflt (refine' unpackItemsN_ ?zqk1 ?zqk2 ?zqk3 ?zqk4 ?zqk5 ?_; (case zqk1 => k_asm); (case zqk2 => k_asm); (case zqk3 => kun_tup); (case zqk4 => exact Rm.handled (by assumption)); (case zqk5 => exact rfl); k_whole); intro _ _ _; (try k_sweep))
  k_with "subscriptTail Name Constant str int" => (k_here; (with_reducible show wpAny _ _ (subscriptTail _ _ (Value.str _ _) (Value.int _ _)) _ _ _); refine item_first (by assumption) ?_; intro _ _)
  k_with "newList" => (k_here; k_dflt (refine' newList_L ?zqk1 ?zqk2 ?_; (case zqk1 => k_asm); (case zqk2 => k_asm); k_whole); walk_at "m_t6")
  k_with "binaryOp Add ref ref" => (k_here; (with_reducible show wpAny _ _ (binaryOp _ (Value.ref _) (Value.ref _)) _ _ _); k_dflt (refine' add_LL ?zqk1 ?zqk2 ?zqk3 ?zqk4 ?_ ?zqk5; (case zqk1 => k_asm); (case zqk2 => k_asm); (case zqk3 => k_mem); (case zqk4 => k_mem); (case zqk5 => (rw [PySem.sizeLine_eq]; (try simp only [List.length_append, List.length_cons, List.length_nil]); omega)); k_whole); walk_at "m_t6")
  k_with "exec If" => refine if_br (by assumption) ?_ ?_
  intro tr
  induction tr with
  | leaf x =>
    intro hok hlen c A s lo v hlo hv I hA R hR
    obtain ⟨tk, rfl⟩ := hv
    refine' enterM (binds := [(Str.ofString "tree", .str x tk)]) I ?k1 ?k2 hA.lt ?k4 ?k5 ?_ ?c2 ?c3 ?c4 ?c5
    case k1 => k_is
    case k2 => k_is
    case k4 => exact BindsTo.of_eq rfl
    case k5 => exact locs rfl
    case c2 => exact rfl
    case c3 => exact rfl
    case c4 => exact rfl
    case c5 => decide
    intro g L h₁ p q fz AA hAA Z F N P ext X T
    have hA1 := hAA 4 (hA.le (by omega))
    show wpAny _ _ _ _ _ _
    k_fold
    k_steps
    rename Fr _ _ _ _ => F2
    rename News _ _ _ _ => N2
    rename L < _ => lL
    exact hR _ _ (fin (s' := Shared.mk _ _ _ _ _) Z F2 (Pt.inv Z P F2 N2 (by walk_at "m_fz") (by walk_at "m_tab") (by walk_at "m_tab")) (fun _ _ e => e) (fun e => e) rfl) ⟨_, _, _, rfl, Nat.le_trans Z.le (Nat.le_of_lt lL), (N2 _ (List.mem_cons_self ..)).1, .cons _ _ .nil⟩
  | node sg a b iha ihb =>
    intro hok hlen c A s lo v hlo hv I hA R hR
    obtain ⟨l, t, va, vb, n, rfl, hlo2, hl, ha, hb⟩ := hv
    obtain ⟨hsg, hoka, hokb⟩ := hok
    refine' enterM (binds := [(Str.ofString "tree", .ref l)]) I ?k1 ?k2 hA.lt ?k4 ?k5 ?_ ?c2 ?c3 ?c4 ?c5
    case k1 => k_is
    case k2 => k_is
    case k4 => exact BindsTo.of_eq rfl
    case k5 => exact locs rfl
    case c2 => exact rfl
    case c3 => exact rfl
    case c4 => exact rfl
    case c5 => decide
    intro g L h₁ p q fz AA hAA Z F N P ext X T
    have hA1 := hAA (5 + max a.depth b.depth) (hA.le (by rw [Tree.depth]; omega))
    have h51 : 51 < lo := Nat.lt_of_lt_of_le c.lt hlo
    have hlg := Z.old _ _ hl (ne_lo h51 hlo2).1 (ne_lo h51 hlo2).2
    have hIL : g.IsList l #[.str sg t, va, vb] := ⟨_, hlg, rfl, _, rfl⟩
    show wpAny _ _ _ _ _ _
    k_fold
    k_steps
    rename Fr _ _ _ _ => F2
    rename News _ _ _ _ => N2
    have hL2 := F2.ns.lt
    have I2 := Pt.inv Z P F2 N2 (by walk_at "m_fz") (by walk_at "m_tab") (by walk_at "m_tab")
    refine Calls.use (iha hoka (by have := toks_a sg a b; omega) c AA _ lo va hlo (ha.inFn Z F2 hlo) I2 (hA1.le (by omega))) fun v s3 b3 hv => ?_
    obtain ⟨la, xs, na, rfl, hla, hga, hxs⟩ := hv.ex
    obtain ⟨F3, p3, q3, fz3, N3, P3⟩ := after_new [] Z F2 N2 (fun _ h => by cases h) b3 hga (Nat.lt_of_lt_of_le hL2 hla) (not_code_list)
    clear F2 N2 P I2
    show wpAny _ _ _ _ _ _
    k_fold
    k_steps
    rename Fr _ _ _ _ => F4
    rename News _ _ _ _ => N4
    have hL4 := F4.ns.lt
    have I4 := Pt.inv Z P3 F4 N4 (by walk_at "m_fz") (by walk_at "m_tab") (by walk_at "m_tab")
    have hLa := Z.fresh F4 (Nat.lt_of_lt_of_le hL2 hla)
    have hla4 : la < _ := Heap.lt_size (N4 (la, _) (List.mem_cons_self ..)).1
    refine Calls.use (ihb hokb (by have := toks_b sg a b; omega) c AA _ lo vb hlo (hb.inFn Z F4 hlo) I4 (hA1.le (by omega))) fun v s5 b5 hv => ?_
    obtain ⟨lb, ys, nb, rfl, hlb, hgb, hys⟩ := hv.ex
    obtain ⟨F5, p5, q5, fz5, N5, P5⟩ := after_new [(la, PySem.W.listOf xs.toArray na)] Z F4 N4 (by intro x hx; cases List.mem_singleton.mp hx; exact ⟨by simp, hLa.2.2.1, hLa.2.2.2, not_code_list⟩) b5 hgb (Nat.lt_of_lt_of_le hL4 hlb) (not_code_list)
    have hg5 : ∀ (i : Nat) (x : GenState), s.gens[i]? = some x → s5.gens[i]? = some x := fun i y e => b5.gens i y (b3.gens i y e)
    have hb5 : AllBare s.gens → AllBare s5.gens := fun e => b5.bare (b3.bare e)
    have ho5 : s5.os = s.os := b5.os.trans b3.os
    have hsx : xs.length ≤ 1000 := by
      have h1 := hxs.length
      have h2 := toks_a sg a b
      omega
    have hsy : ys.length ≤ 1000 := by
      have h1 := hys.length
      have h2 := toks_b sg a b
      omega
    have hba : la < lb := Nat.lt_of_lt_of_le hla4 hlb
    clear F4 N4 P3 I4
    have hLa5 : L < la := by first | exact Nat.lt_of_lt_of_le hL2 hla | omega
    have hLb5 : L < lb := Nat.lt_trans hLa5 hba
    have mk : BrMark (Br g L s5 (Str.ofString "ahead") (fun y => if y = Str.ofString "ahead" then some (Value.ref la) else if y = Str.ofString "behind" then some (Value.ref lb) else if y = Str.ofString "right" then some vb else if y = Str.ofString "left" then some va else if y = Str.ofString "sign" then some (Value.str sg t) else List.lookup y [(Str.ofString "tree", Value.ref l)].reverse) ((lb, PySem.W.listOf ys.toArray nb) :: (44, tabObj p5) :: (51, tabObj q5) :: fz5) (if (sg == sD) = true ∧ a.isMinus = true then [sO] ++ toks a ++ [sC] else toks a)) := ⟨trivial⟩
    show wpAny _ _ _ _ _ _
    k_fold
    k_steps
    · clear mk
      rcases hsg with rfl | rfl
      · have hsd : (sM == sD) = false := by decide +kernel
        show wpAny _ _ _ _ _ _
        k_fold
        k_steps
        rename Fr _ _ _ _ => F8
        rename News _ _ _ _ => N8
        (try simp only [List.cons_append, List.nil_append] at N8)
        rw [if_neg (fun z => by first | exact Bool.noConfusion (hsd.symm.trans z.1) | exact (Bool.false_ne_true z.2).elim | (have q := z.2; rw [Tree.isMinus, ham] at q; cases q))]
        exact br_end F8 N8 (map_as (by with_unfolding_all rfl)) (by k_mem) (List.forall_mem_cons.mpr ⟨by k_mem, List.forall_mem_cons.mpr ⟨by k_mem, List.forall_mem_cons.mpr ⟨by k_mem, fun x hx => by repeat (first | with_reducible exact hx | refine List.mem_cons_of_mem _ ?_)⟩⟩⟩) hLa5 hxs (by omega)
      · have hsd : (sD == sD) = true := by decide +kernel
        cases a with
        | leaf xa =>
          obtain ⟨tka, rfl⟩ := ha
          obtain ⟨d0, hd0, hd45⟩ := leaf_first hoka
          have hd46 : ((⟨#[d0]⟩ : Str) == Str.ofString "-") = false := by
            rw [show Str.ofString "-" = ⟨#[45]⟩ from sM_is]; simpa using hd45
          show wpAny _ _ _ _ _ _
          k_fold
          k_steps
          rename Fr _ _ _ _ => F8
          rename News _ _ _ _ => N8
          (try simp only [List.cons_append, List.nil_append] at N8)
          rw [if_neg (fun z => by first | exact Bool.noConfusion (hsd.symm.trans z.1) | exact (Bool.false_ne_true z.2).elim | (have q := z.2; rw [Tree.isMinus, ham] at q; cases q))]
          exact br_end F8 N8 (map_as (by with_unfolding_all rfl)) (by k_mem) (List.forall_mem_cons.mpr ⟨by k_mem, List.forall_mem_cons.mpr ⟨by k_mem, List.forall_mem_cons.mpr ⟨by k_mem, fun x hx => by repeat (first | with_reducible exact hx | refine List.mem_cons_of_mem _ ?_)⟩⟩⟩) hLa5 hxs (by omega)
        | node sa a1 a2 =>
          obtain ⟨laa, tka, va1, va2, naa, rfl, hloa, hgaa, ha1, ha2⟩ := ha
          have hIa : g.IsList laa #[.str sa tka, va1, va2] := ⟨_, Z.old _ _ hgaa (ne_lo h51 hloa).1 (ne_lo h51 hloa).2, rfl, _, rfl⟩
          cases ham : (sa == sM) with
          | true =>
            show wpAny _ _ _ _ _ _
            k_fold
            k_steps
            rename Fr _ _ _ _ => F8
            rename News _ _ _ _ => N8
            (try simp only [List.cons_append, List.nil_append] at N8)
            rw [if_pos ⟨hsd, by rw [Tree.isMinus, ham]⟩]
            exact br_end F8 N8 (by first | rfl | (funext y; split <;> rfl)) (by k_mem) (List.forall_mem_cons.mpr ⟨by k_mem, List.forall_mem_cons.mpr ⟨by k_mem, List.forall_mem_cons.mpr ⟨by k_mem, fun x hx => by repeat (first | with_reducible exact hx | refine List.mem_cons_of_mem _ ?_)⟩⟩⟩) (by assumption) (((StrsAre.cons sO _ .nil).append' hxs).append' (.cons sC _ .nil)) (by simp only [List.length_append, List.length_cons, List.length_nil]; omega)
          | false =>
            show wpAny _ _ _ _ _ _
            k_fold
            k_steps
            rename Fr _ _ _ _ => F8
            rename News _ _ _ _ => N8
            (try simp only [List.cons_append, List.nil_append] at N8)
            rw [if_neg (fun z => by first | exact Bool.noConfusion (hsd.symm.trans z.1) | exact (Bool.false_ne_true z.2).elim | (have q := z.2; rw [Tree.isMinus, ham] at q; cases q))]
            exact br_end F8 N8 (map_as (by with_unfolding_all rfl)) (by k_mem) (List.forall_mem_cons.mpr ⟨by k_mem, List.forall_mem_cons.mpr ⟨by k_mem, List.forall_mem_cons.mpr ⟨by k_mem, fun x hx => by repeat (first | with_reducible exact hx | refine List.mem_cons_of_mem _ ?_)⟩⟩⟩) hLa5 hxs (by omega)
    · unfold Hold
      intro s6 hb6
      clear mk
      rename Fr _ _ _ _ => FX
      rename News _ _ _ _ => NX
      clear FX NX
      obtain ⟨h6, tk6, l6, n6, xs6, rfl, F6, N6, lL6, hxs6, hlen6⟩ := hb6.ex
      clear hb6
      have mk : BrMark (Br g L s5 (Str.ofString "behind") (fun y => if y = Str.ofString "ahead" then some (Value.ref l6) else ((fun y => if y = Str.ofString "ahead" then some (Value.ref la) else if y = Str.ofString "behind" then some (Value.ref lb) else if y = Str.ofString "right" then some vb else if y = Str.ofString "left" then some va else if y = Str.ofString "sign" then some (Value.str sg t) else List.lookup y [(Str.ofString "tree", Value.ref l)].reverse)) y) ((l6, PySem.W.listOf xs6.toArray n6) :: (44, tabObj p5) :: (51, tabObj q5) :: fz5) (if b.isNode = true ∧ ((sg == sD) = true ∨ b.isMinus = true) then [sO] ++ toks b ++ [sC] else toks b)) := ⟨trivial⟩
      show wpAny _ _ _ _ _ _
      try k_fold
      k_steps
      · clear mk
        rcases hsg with rfl | rfl
        · have hsd : (sM == sD) = false := by decide +kernel
          cases b with
          | leaf xb =>
            obtain ⟨tb, rfl⟩ := hb
            show wpAny _ _ _ _ _ _
            try k_fold
            k_steps
            rename Fr _ _ _ _ => F8
            rename News _ _ _ _ => N8
            (try simp only [List.cons_append, List.nil_append] at N8)
            rw [if_neg (fun z => by first | exact (Bool.false_ne_true z.1).elim | exact z.2.elim (fun q => by rw [hsd] at q; cases q) (fun q => by rw [Tree.isMinus, hbm] at q; cases q))]
            exact br_end F8 N8 (map_as (by with_unfolding_all rfl)) (by k_mem) (List.forall_mem_cons.mpr ⟨by k_mem, List.forall_mem_cons.mpr ⟨by k_mem, List.forall_mem_cons.mpr ⟨by k_mem, fun x hx => by repeat (first | with_reducible exact hx | refine List.mem_cons_of_mem _ ?_)⟩⟩⟩) hLb5 hys (by omega)
          | node sb b1 b2 =>
            obtain ⟨lbb, tkb, vb1, vb2, nbb, rfl, hlob, hgbb, hb1, hb2⟩ := hb
            have hIb : g.IsList lbb #[.str sb tkb, vb1, vb2] := ⟨_, Z.old _ _ hgbb (ne_lo h51 hlob).1 (ne_lo h51 hlob).2, rfl, _, rfl⟩
            cases hbm : (sb == sM) with
            | true =>
              show wpAny _ _ _ _ _ _
              try k_fold
              k_steps
              rename Fr _ _ _ _ => F8
              rename News _ _ _ _ => N8
              (try simp only [List.cons_append, List.nil_append] at N8)
              rw [if_pos ⟨rfl, by first | exact .inl hsd | exact .inr (by rw [Tree.isMinus, hbm])⟩]
              exact br_end F8 N8 (by first | rfl | (funext y; split <;> rfl)) (by k_mem) (List.forall_mem_cons.mpr ⟨by k_mem, List.forall_mem_cons.mpr ⟨by k_mem, List.forall_mem_cons.mpr ⟨by k_mem, fun x hx => by repeat (first | with_reducible exact hx | refine List.mem_cons_of_mem _ ?_)⟩⟩⟩) (by assumption) (((StrsAre.cons sO _ .nil).append' hys).append' (.cons sC _ .nil)) (by simp only [List.length_append, List.length_cons, List.length_nil]; omega)
            | false =>
              show wpAny _ _ _ _ _ _
              try k_fold
              k_steps
              rename Fr _ _ _ _ => F8
              rename News _ _ _ _ => N8
              (try simp only [List.cons_append, List.nil_append] at N8)
              rw [if_neg (fun z => by first | exact (Bool.false_ne_true z.1).elim | exact z.2.elim (fun q => by rw [hsd] at q; cases q) (fun q => by rw [Tree.isMinus, hbm] at q; cases q))]
              exact br_end F8 N8 (map_as (by with_unfolding_all rfl)) (by k_mem) (List.forall_mem_cons.mpr ⟨by k_mem, List.forall_mem_cons.mpr ⟨by k_mem, List.forall_mem_cons.mpr ⟨by k_mem, fun x hx => by repeat (first | with_reducible exact hx | refine List.mem_cons_of_mem _ ?_)⟩⟩⟩) hLb5 hys (by omega)
        · have hsd : (sD == sD) = true := by decide +kernel
          cases b with
          | leaf xb =>
            obtain ⟨tb, rfl⟩ := hb
            show wpAny _ _ _ _ _ _
            try k_fold
            k_steps
            rename Fr _ _ _ _ => F8
            rename News _ _ _ _ => N8
            (try simp only [List.cons_append, List.nil_append] at N8)
            rw [if_neg (fun z => by first | exact (Bool.false_ne_true z.1).elim | exact z.2.elim (fun q => by rw [hsd] at q; cases q) (fun q => by rw [Tree.isMinus, hbm] at q; cases q))]
            exact br_end F8 N8 (map_as (by with_unfolding_all rfl)) (by k_mem) (List.forall_mem_cons.mpr ⟨by k_mem, List.forall_mem_cons.mpr ⟨by k_mem, List.forall_mem_cons.mpr ⟨by k_mem, fun x hx => by repeat (first | with_reducible exact hx | refine List.mem_cons_of_mem _ ?_)⟩⟩⟩) hLb5 hys (by omega)
          | node sb b1 b2 =>
            obtain ⟨lbb, tkb, vb1, vb2, nbb, rfl, hlob, hgbb, hb1, hb2⟩ := hb
            have hIb : g.IsList lbb #[.str sb tkb, vb1, vb2] := ⟨_, Z.old _ _ hgbb (ne_lo h51 hlob).1 (ne_lo h51 hlob).2, rfl, _, rfl⟩
            show wpAny _ _ _ _ _ _
            try k_fold
            k_steps
            rename Fr _ _ _ _ => F8
            rename News _ _ _ _ => N8
            (try simp only [List.cons_append, List.nil_append] at N8)
            rw [if_pos ⟨rfl, by first | exact .inl hsd | exact .inr (by rw [Tree.isMinus, hbm])⟩]
            exact br_end F8 N8 (by first | rfl | (funext y; split <;> rfl)) (by k_mem) (List.forall_mem_cons.mpr ⟨by k_mem, List.forall_mem_cons.mpr ⟨by k_mem, List.forall_mem_cons.mpr ⟨by k_mem, fun x hx => by repeat (first | with_reducible exact hx | refine List.mem_cons_of_mem _ ?_)⟩⟩⟩) (by assumption) (((StrsAre.cons sO _ .nil).append' hys).append' (.cons sC _ .nil)) (by simp only [List.length_append, List.length_cons, List.length_nil]; omega)
      · unfold Hold
        intro s9 hb9
        clear mk F6 N6
        obtain ⟨h9, tk9, l9, n9, ys9, rfl, F9, N9, lL9, hys9, hlen9⟩ := hb9.ex
        clear hb9
        show wpAny _ _ _ _ _ _
        try k_fold
        k_steps
        rename Fr _ _ _ _ => F8
        rename News _ _ _ _ => N8
        exact tok_end Z hR hg5 hb5 ho5 F8 (Pt.inv Z P5 F8 N8 (by walk_at "m_fz") (by walk_at "m_tab") (by walk_at "m_tab")) N8 (by assumption) (by rw [toks]; exact (hxs6.append' (.cons _ _ .nil)).append' hys9)
end Mine

end
section
open PySem PySem.W PyProof.Rows PySem.Calls PySem.Spec
namespace Mine
/-- the place of a waiting sign -/
def rank (w : Str) : Option Nat := if w = sO then some 0 else if w = sM then some 1 else if w = sD then some 2 else none
/-- the pile of signs that wait, put to the pile of trees; both piles top first -/
def red (lim : Nat) : List Str → List Tree → Option (List Tree × List Str)
  | [], _ => none
  | w :: ws, trs => match rank w with
    | none => none
    | some r => if lim ≤ r then (match trs with
      | x :: y :: rest => red lim ws (.node w y x :: rest)
      | _ => none) else some (trs, w :: ws)
def fstep (st : List Tree × List Str) (t : Str) : Option (List Tree × List Str) :=
  if t = sM ∨ t = sD ∨ t = sC then
    match red (if t = sD then 2 else 1) st.2 st.1 with
    | some (trs, ws) => if t = sC then some (trs, ws.tail) else some (trs, t :: ws)
    | none => none
  else if t = sO then some (st.1, t :: st.2)
  else some (.leaf t :: st.1, st.2)
def fsteps (st : List Tree × List Str) : List Str → Option (List Tree × List Str)
  | [] => some st
  | t :: r => match fstep st t with
    | some st' => fsteps st' r
    | none => none
def frontO (ts : List Str) : Option Tree := match fsteps ([], [sO]) (ts ++ [sC]) with
  | some (trs, _) => trs.getLast?
  | none => none
theorem fsteps_app (a b : List Str) : ∀ st, fsteps st (a ++ b) = match fsteps st a with
    | some st' => fsteps st' b
    | none => none := by
  induction a with
  | nil => intro st; rfl
  | cons t r ih =>
    intro st
    rw [List.cons_append, fsteps, fsteps]
    cases fstep st t with
    | none => rfl
    | some st' => exact ih st'
theorem red_S (lim : Nat) (w : Str) (ws : List Str) (trs : List Tree) : red lim (w :: ws) trs = match rank w with
  | none => none
  | some r => if lim ≤ r then (match trs with
    | x :: y :: rest => red lim ws (.node w y x :: rest)
    | _ => none) else some (trs, w :: ws) := rfl
theorem rank_cases {w : Str} {r : Nat} (h : rank w = some r) : (w = Str.ofString "(" ∧ r = 0) ∨ (w = Str.ofString "-" ∧ r = 1) ∨ (w = Str.ofString "/" ∧ r = 2) := by
  unfold rank at h
  split at h
  · cases h; exact .inl ⟨by assumption, rfl⟩
  · split at h
    · cases h; exact .inr (.inl ⟨by assumption, rfl⟩)
    · split at h
      · cases h; exact .inr (.inr ⟨by assumption, rfl⟩)
      · cases h

/-- a pile of trees -/
inductive TreesAre (S : Addr → Prop) (h : Heap) : List Value → List Tree → Prop
  | nil : TreesAre S h [] []
  | cons {v : Value} {t : Tree} {vs : List Value} {ts : List Tree} : TreeAt S h t v → TreesAre S h vs ts → TreesAre S h (v :: vs) (t :: ts)
theorem TreesAre.length {S : Addr → Prop} {h : Heap} {vs : List Value} {ts : List Tree} (x : TreesAre S h vs ts) : vs.length = ts.length := by
  induction x with
  | nil => rfl
  | cons _ _ ih => rw [List.length_cons, List.length_cons, ih]
theorem TreesAre.keeps {S : Addr → Prop} {h h' : Heap} (st : ∀ b o, S b → h.get? b = some o → h'.get? b = some o) {vs : List Value} {ts : List Tree} (x : TreesAre S h vs ts) : TreesAre S h' vs ts := by
  induction x with
  | nil => exact .nil
  | cons a _ ih => exact .cons (a.keeps st) ih
theorem TreesAre.mono {S S' : Addr → Prop} {h : Heap} (hl : ∀ b, S b → h.get? b ≠ none → S' b) {vs : List Value} {ts : List Tree} (x : TreesAre S h vs ts) : TreesAre S' h vs ts := by
  induction x with
  | nil => exact .nil
  | cons a _ ih => exact .cons (a.mono hl) ih
theorem TreesAre.append {S : Addr → Prop} {h : Heap} {vs ws : List Value} {ts us : List Tree} (x : TreesAre S h vs ts) (y : TreesAre S h ws us) : TreesAre S h (vs ++ ws) (ts ++ us) := by
  induction x with
  | nil => exact y
  | cons a _ ih => exact .cons a ih
theorem TreesAre.take {S : Addr → Prop} {h : Heap} {vs : List Value} {ts : List Tree} (x : TreesAre S h vs ts) : ∀ n, TreesAre S h (vs.take n) (ts.take n) := by
  induction x with
  | nil => intro n; rw [List.take_nil, List.take_nil]; exact .nil
  | cons a _ ih => intro n; cases n with
    | zero => exact .nil
    | succ n => exact .cons a (ih n)
theorem TreesAre.drop {S : Addr → Prop} {h : Heap} {vs : List Value} {ts : List Tree} (x : TreesAre S h vs ts) : ∀ n, TreesAre S h (vs.drop n) (ts.drop n) := by
  induction x with
  | nil => intro n; rw [List.drop_nil, List.drop_nil]; exact .nil
  | cons a r ih => intro n; cases n with
    | zero => exact .cons a r
    | succ n => exact ih n
theorem TreesAre.get {S : Addr → Prop} {h : Heap} {vs : List Value} {ts : List Tree} (x : TreesAre S h vs ts) : ∀ (i : Nat) (t : Tree), ts[i]? = some t → ∃ v, vs[i]? = some v ∧ TreeAt S h t v := by
  induction x with
  | nil => intro i t e; cases e
  | cons a r ih => intro i t e; cases i with
    | zero => cases e; exact ⟨_, rfl, a⟩
    | succ i => exact ih i t e
theorem TreesAre.last {S : Addr → Prop} {h : Heap} {vs : List Value} {ts : List Tree} {t : Tree} (x : TreesAre S h vs ts) (e : ts.getLast? = some t) : ∃ v r, vs = r ++ [v] ∧ TreeAt S h t v := by
  obtain ⟨us, rfl⟩ := List.getLast?_eq_some_iff.mp e
  obtain ⟨v, hv, hT⟩ := x.get us.length t (by simp)
  have hl := x.length
  rw [List.length_append, List.length_singleton] at hl
  refine ⟨v, vs.take us.length, ?_, hT⟩
  have h1 := List.take_append_drop us.length vs
  obtain ⟨hlt, e2⟩ := List.getElem?_eq_some_iff.mp hv
  rw [List.drop_eq_getElem_cons hlt, e2, List.drop_eq_nil_of_le (by omega)] at h1
  exact h1.symm

structure Above (L l : Addr) (news : List (Addr × Obj)) : Prop where
  lt : @LT.lt Nat _ L l
  all : ∀ p ∈ news, @LT.lt Nat _ p.1 l
section
variable {prog : Program} {w : World} {A : Around} {E : Value → Shared → Prop} {s : Shared} {h₀ : Heap} {L : Addr} {m : Str → Option Value} {news news' : List (Addr × Obj)} {value slice : Expr}
theorem newList_A {M : Model} {vs : List Value} {Q : Value → Shared → Prop} (F : Fr h₀ L s.heap m) (N : News h₀ L s.heap news)
    (h : ∀ l h', Fr h₀ L h' m → News h₀ L h' ((l, PySem.W.listOf vs.toArray 0) :: news) → (∀ p ∈ news, p.1 < l) → Above L l news → Q (.ref l) { s with heap := h' }) (hsz : vs.length ≤ sizeLine := by size_fits) : wpAny M A (newList vs) Q E s :=
  newList_N F N (fun h' F' N' => h _ h' F' N' (fun p hp => Heap.lt_size (N p hp).1) ⟨F.ns.lt, fun p hp => Heap.lt_size (N p hp).1⟩) hsz
abbrev LAt (h : Heap) (l : Addr) (xs : List Value) (n : Nat) : Prop := h.get? l = some (PySem.W.listOf xs.toArray n)
theorem LAt.isList {h : Heap} {l : Addr} {xs : List Value} {n : Nat} (x : LAt h l xs n) : h.IsList l xs.toArray := ⟨_, x, rfl, _, rfl⟩
theorem add_LG {a b : Addr} {xs ys : List Value} {n k : Nat} {Q : Value → Shared → Prop} (F : Fr h₀ L s.heap m) (N : News h₀ L s.heap news) (ha : LAt s.heap a xs n) (hb : LAt s.heap b ys k)
    (h : ∀ l h', Fr h₀ L h' m → News h₀ L h' ((l, PySem.W.listOf (xs ++ ys).toArray 0) :: news) → (∀ p ∈ news, p.1 < l) → Above L l news → Q (.ref l) { s with heap := h' }) (hsz : xs.length + ys.length ≤ sizeLine) :
    wpAny (model prog w) A (binaryOp .Add (.ref a) (.ref b)) Q E s :=
  PySem.P.add_list ha hb (by
    rw [List.append_toArray]
    exact h _ _ (F.push _) (N.push F _ rfl) (fun p hp => Heap.lt_size (N p hp).1) ⟨F.ns.lt, fun p hp => Heap.lt_size (N p hp).1⟩) (by rw [List.size_toArray, List.size_toArray]; exact hsz)
theorem slice_LG {l : Addr} {xs : List Value} {n : Nat} {vl vu : Value} {lo hi : Option Int} {Q : Value → Shared → Prop} (F : Fr h₀ L s.heap m) (N : News h₀ L s.heap news) (hl : LAt s.heap l xs n) (pl : IsPart vl lo) (pu : IsPart vu hi)
    (h : ∀ D h', Fr h₀ L h' m → News h₀ L h' ((D, PySem.W.listOf (kms_pick xs lo hi).toArray 0) :: news) → (∀ p ∈ news, p.1 < D) → Above L D news → Q (.ref D) { s with heap := h' })
    (hz : xs.length ≤ sizeLine)
    (hs : subscripted slice false (.ref l) (.ref s.heap.objs.size) = operate [.ref s.heap.objs.size, .ref l] (getItem (.ref l) (.ref s.heap.objs.size)) := by with_unfolding_all rfl) (ht : ∀ r, letTemporaryGo value (.ref l) r = pure () := by intro _; with_unfolding_all rfl) :
    wpAny (model prog w) A (subscriptTail value slice (.ref l) (.ref s.heap.objs.size)) Q E { s with heap := s.heap.push { cls := .type "slice", data := .fields #[vl, vu, .none] } } := by
  refine slice_list F N hl.isList pl pu (fun h' F' N' => ?_) hs ht (by rw [List.size_toArray]; exact hz)
  rw [kms_pick_eq] at N'
  exact h _ h' F' N' (fun p hp => Nat.lt_succ_of_lt (Heap.lt_size (N p hp).1)) ⟨Nat.lt_succ_of_lt F.ns.lt, fun p hp => Nat.lt_succ_of_lt (Heap.lt_size (N p hp).1)⟩
theorem pick_le (l : List Value) (a b : Option Int) : (kms_pick l a b).length ≤ l.length := by
  unfold kms_pick; rw [List.length_take, List.length_drop]; exact Nat.le_trans (Nat.min_le_right _ _) (Nat.sub_le _ _)
theorem room_1 {l : List Value} (h : l.length ≤ 1000) : l.length ≤ sizeLine := Nat.le_trans h (by rw [PySem.sizeLine_eq]; decide)
theorem room_pp {l : List Value} {a b c d : Option Int} (h : l.length ≤ 1000) : (kms_pick l a b).length + (kms_pick l c d).length ≤ sizeLine :=
  Nat.le_trans (Nat.add_le_add (Nat.le_trans (pick_le ..) h) (Nat.le_trans (pick_le ..) h)) (by rw [PySem.sizeLine_eq]; decide)
theorem room_ppp {l : List Value} {a b c d e f : Option Int} (h : l.length ≤ 1000) : (kms_pick l a b ++ kms_pick l c d).length + (kms_pick l e f).length ≤ sizeLine := by
  rw [List.length_append]
  exact Nat.le_trans (Nat.add_le_add (Nat.add_le_add (Nat.le_trans (pick_le ..) h) (Nat.le_trans (pick_le ..) h)) (Nat.le_trans (pick_le ..) h)) (by rw [PySem.sizeLine_eq]; decide)
theorem room_pn {l : List Value} {v : Value} {a b : Option Int} (h : l.length ≤ 1000) : (kms_pick l a b).length + [v].length ≤ sizeLine :=
  Nat.le_trans (Nat.add_le_add_right (Nat.le_trans (pick_le ..) h) _) (by rw [PySem.sizeLine_eq]; exact (by decide : 1000 + 1 ≤ 16777216))
theorem room_pnp {l : List Value} {v : Value} {a b c d : Option Int} (h : l.length ≤ 1000) : (kms_pick l a b ++ [v]).length + (kms_pick l c d).length ≤ sizeLine := by
  rw [List.length_append]
  exact Nat.le_trans (Nat.add_le_add (Nat.add_le_add_right (Nat.le_trans (pick_le ..) h) _) (Nat.le_trans (pick_le ..) h)) (by rw [PySem.sizeLine_eq]; exact (by decide : 1000 + 1 + 1000 ≤ 16777216))
theorem index_rank {y : Str} {t u : Tok} {r : Nat} {Q : Value → Shared → Prop} (hr : rank y = some r) (h : ∀ t' k, Q (.int (r : Int) t') { s with toks := k }) :
    wpAny (model prog w) A (call (.builtin "str.index") [.str (Str.ofString "(-/") t, .str y u]) Q E s := by
  have ho : ∃ rest, Builtin.Str.occurrences (Str.ofString "(-/") y 0 (Str.ofString "(-/").length 1 = r :: rest := by
    rcases rank_cases hr with ⟨rfl, rfl⟩ | ⟨rfl, rfl⟩ | ⟨rfl, rfl⟩
    · exact ⟨[], by decide +kernel⟩
    · exact ⟨[], by decide +kernel⟩
    · exact ⟨[], by decide +kernel⟩
  obtain ⟨rest, ho⟩ := ho
  exact SC.index ho (h _ _)
theorem last_LG {l : Addr} {xs : List Value} {y : Value} {n : Nat} {u : Tok} {Q : Value → Shared → Prop} (hl : LAt s.heap l (xs ++ [y]) n) (h : Q y s)
    (hs : subscripted slice false (.ref l) (.int (-1) u) = operate [.ref l, .int (-1) u] (getItem (.ref l) (.int (-1) u)) := by with_unfolding_all rfl) (hg : ∀ r, letTemporaryGo value (.ref l) r = pure () := by intro _; with_unfolding_all rfl) :
    wpAny (model prog w) A (subscriptTail value slice (.ref l) (.int (-1) u)) Q E s := by
  have hz : (xs ++ [y]).toArray.size = xs.length + 1 := by simp
  refine subscriptTail_builtin hl.isList.typeIs slot_list_getitem.lookup (wpAny_getItem_list_neg hl.isList (by decide) (by rw [hz]; omega) (by decide) (x := y) ?_ h) hs hg
  rw [hz, show ((-1 : Int) + ((xs.length + 1 : Nat) : Int)).toNat = xs.length by omega]
  simp
theorem item0_LG {l : Addr} {xs : List Value} {y : Value} {n : Nat} {u : Tok} {Q : Value → Shared → Prop} (hl : LAt s.heap l (y :: xs) n) (h : Q y s)
    (hs : subscripted slice false (.ref l) (.int 0 u) = operate [.ref l, .int 0 u] (getItem (.ref l) (.int 0 u)) := by with_unfolding_all rfl) (hg : ∀ r, letTemporaryGo value (.ref l) r = pure () := by intro _; with_unfolding_all rfl) :
    wpAny (model prog w) A (subscriptTail value slice (.ref l) (.int 0 u)) Q E s :=
  item_listL hl.isList (by decide) (by decide) (by rfl) h hs hg
theorem pop_LG {D : Addr} {xs : List Value} {y : Value} {n : Nat} {Q : Value → Shared → Prop} (F : Fr h₀ L s.heap m) (N : News h₀ L s.heap news) (U : Upd D (PySem.W.listOf (xs ++ [y]).toArray n) (PySem.W.listOf xs.toArray (n + 1)) news news')
    (hz : (xs ++ [y]).length ≤ sizeLine) (h : ∀ h', Fr h₀ L h' m → News h₀ L h' news' → Q y { s with heap := h' }) : wpAny (model prog w) A (call (.builtin "list.pop") [.ref D]) Q E s :=
  kl_pop F N (kpa_last y xs) U hz h
theorem append_LG {D : Addr} {xs : List Value} {x : Value} {n : Nat} {Q : Value → Shared → Prop} (F : Fr h₀ L s.heap m) (N : News h₀ L s.heap news) (U : Upd D (PySem.W.listOf xs.toArray n) (PySem.W.listOf (xs ++ [x]).toArray (n + 1)) news news')
    (hz : xs.length ≤ sizeLine) (h : ∀ h', Fr h₀ L h' m → News h₀ L h' news' → Q .none { s with heap := h' }) : wpAny (model prog w) A (call (.builtin "list.append") [.ref D, x]) Q E s :=
  append_K F N (its := xs.toArray) (by rw [List.push_toArray]; exact U) h (by rw [List.size_toArray]; exact hz)
end

theorem pick_init (l : List Value) (y : Value) : kms_pick (l ++ [y]) none (some (-1)) = l := by
  unfold kms_pick kms_lo kms_hi
  dsimp only
  rw [if_pos (by decide), List.length_append, List.length_singleton, List.drop_zero, show l.length + 1 - (-(-1 : Int)).toNat - 0 = l.length by omega, List.take_left]
/-- where the trees of a pile may lie -/
abbrev Sx (L T W I : Nat) : Addr → Prop := fun b => L < (b : Nat) ∧ (b : Nat) ≠ T ∧ (b : Nat) ≠ W ∧ (b : Nat) ≠ I
/-- the two piles in the heap -/
structure FCore (L T W I ax : Nat) (h : Heap) (vs kws : List Value) (nT nW : Nat) (trs : List Tree) (ws : List Str) : Prop where
  hT : LAt h T vs.reverse nT
  hW : LAt h W kws.reverse nW
  trees : TreesAre (Sx L T W I) h vs trs
  waits : StrsAre kws ws
  LT : L < T
  LW : L < W
  TW : T ≠ W
  IT : I ≠ T
  IW : I ≠ W
  AT : ax ≠ T
  AW : ax ≠ W
theorem FCore.keeps {L T W I ax : Nat} {h h' : Heap} {vs kws : List Value} {nT nW : Nat} {trs : List Tree} {ws : List Str} (x : FCore L T W I ax h vs kws nT nW trs ws)
    (k : ∀ (b : Addr) o, L < (b : Nat) → (b : Nat) ≠ I → h.get? b = some o → h'.get? b = some o) : FCore L T W I ax h' vs kws nT nW trs ws :=
  ⟨k _ _ x.LT (Ne.symm x.IT) x.hT, k _ _ x.LW (Ne.symm x.IW) x.hW, x.trees.keeps fun b o hb e => k b o hb.1 hb.2.2.2 e, x.waits, x.LT, x.LW, x.TW, x.IT, x.IW, x.AT, x.AW⟩
structure FJ (s : Shared) (L I ax : Nat) (ts : List Str) (i : Nat) (m' : Str → Option Value) (s' : Shared) : Prop where
  ex : ∃ T W vs kws nT nW trs ws, m' (Str.ofString "trees") = some (.ref T) ∧ m' (Str.ofString "waits") = some (.ref W) ∧ FCore L T W I ax s'.heap vs kws nT nW trs ws ∧ fsteps ([], [sO]) (ts.take i) = some (trs, ws) ∧ vs.length ≤ i ∧ kws.length ≤ i + 1
  gens : s'.gens = s.gens
  os : s'.os = s.os
structure WJ (c : P0) (s : Shared) (g : Heap) (L T W I ax : Nat) (lim : Nat) (tok : Value) (i : Nat) (items : Array Value) (res : List Tree × List Str) (n : Nat) (s' : Shared) : Prop where
  ex : ∃ vs kws nT nW trs ws m', n = ws.length ∧ m' (Str.ofString "trees") = some (.ref T) ∧ m' (Str.ofString "waits") = some (.ref W) ∧ m' (Str.ofString "token") = some tok ∧ FCore L T W I ax s'.heap vs kws nT nW trs ws ∧ red lim ws trs = some res ∧ Fr g L s'.heap m' ∧ vs.length ≤ i ∧ kws.length ≤ i
  inv : Inv c s'.heap
  st : s'.heap.IsListIter I ax i ∧ s'.heap.IsList ax items
  gens : s'.gens = s.gens
  os : s'.os = s.os
theorem allLt_get {d : Nat} (l : List (Addr × Obj)) : PySem.W.AllLt d l → ∀ p ∈ l, @LT.lt Nat _ p.1 d := by
  induction l with
  | nil => intro _ p hp; cases hp
  | cons a r ih =>
    intro h p hp
    unfold PySem.W.AllLt at h
    rcases List.mem_cons.mp hp with e | hp
    · rw [e]; exact h.1
    · exact ih h.2 p hp
theorem front_start {g : Heap} {L : Addr} {h : Heap} {m : Str → Option Value} {ax W T : Addr} {x1 x2 : Addr × Obj} {vs : List Value} {tk : Tok} {rest : List (Addr × Obj)} (F9 : Fr g L h m)
    (N : News g L h ((ax, PySem.W.listOf vs.toArray 0) :: x1 :: x2 :: (W, PySem.W.listOf #[.str (Str.ofString "(") tk] 0) :: (T, PySem.W.listOf #[] 0) :: rest))
    {n1 n2 n3 : List (Addr × Obj)} (lT : Above L T n1) (lW : Above L W n2) (TW : @LT.lt Nat _ T W) (TA : @LT.lt Nat _ T ax) (WA : @LT.lt Nat _ W ax) (LA : Above L ax n3) (e1 : m (Str.ofString "trees") = some (.ref T)) (e2 : m (Str.ofString "waits") = some (.ref W)) :
    ∃ T W : Addr, ∃ tk, m (Str.ofString "trees") = some (.ref T) ∧ m (Str.ofString "waits") = some (.ref W) ∧ FCore L T W h.objs.size ax h [] [.str sO tk] 0 0 [] [sO] ∧ LAt h ax vs 0 ∧ @LT.lt Nat _ L ax := by
  have hT := (N (T, PySem.W.listOf #[] 0) (by simp)).1
  have hW := (N (W, PySem.W.listOf #[.str (Str.ofString "(") tk] 0) (by simp)).1
  exact ⟨T, W, tk, e1, e2, ⟨hT, hW, .nil, .cons _ _ .nil, lT.lt, lW.lt, Nat.ne_of_lt TW, Nat.ne_of_gt (Heap.lt_size hT), Nat.ne_of_gt (Heap.lt_size hW), Nat.ne_of_gt TA, Nat.ne_of_gt WA⟩, (N _ (List.mem_cons_self ..)).1, LA.lt⟩
/-- renew, and all that lies in the heap lies in the ledger -/
structure Full (g : Heap) (L : Addr) (own : List (Addr × Obj)) (h : Heap) (fz : List (Addr × Obj)) : Prop where
  all : ∀ b o, h.get? b = some o → b ≠ L → b ≠ 44 → b ≠ 51 → (∀ y ∈ own, b ≠ y.1) → g.get? b = none → (b, o) ∈ fz
  apart : ∀ y ∈ own, ∀ x ∈ fz, x.1 ≠ y.1
theorem freezeF {g : Heap} {L : Addr} {h : Heap} {m : Str → Option Value} {own : List (Addr × Obj)} {p q : Obj} (F : Fr g L h m) (N : News g L h (own ++ [(44, p), (51, q)])) :
    ∃ fz, News g L h (own ++ (44, p) :: (51, q) :: fz) ∧ Froz g L own h fz ∧ Full g L own h fz := by
  refine ⟨dump g L own h, fun x hx => ?_, ⟨fun x hx => ?_, fun h'' m'' F'' N'' b o e h1 h2 h3 h4 => ?_⟩, ⟨fun b o e h1 h2 h3 h4 h5 => mem_dump.mpr ⟨e, h1, h2, h3, h4, h5⟩, fun y hy x hx => (mem_dump.mp hx).2.2.2.2.1 y hy⟩⟩
  · rcases List.mem_append.mp hx with hx | hx
    · exact N x (List.mem_append_left _ hx)
    · rcases List.mem_cons.mp hx with rfl | hx
      · exact N _ (List.mem_append_right _ (by simp))
      · rcases List.mem_cons.mp hx with rfl | hx
        · exact N _ (List.mem_append_right _ (by simp))
        · have z := mem_dump.mp hx
          exact ⟨z.1, z.2.1, z.2.2.2.2.2⟩
  · have z := mem_dump.mp hx
    exact ⟨z.2.2.1, z.2.2.2.1, z.2.2.2.2.1⟩
  · cases hg : g.get? b with
    | some o' =>
      have := F.keep b o' hg
      rw [e] at this; cases this
      exact F''.keep b o hg
    | none => exact (N'' (b, o) (mem_dump.mpr ⟨e, h1, h2, h3, h4, hg⟩)).1
theorem renewF {c : P0} {h₀ g : Heap} {L : Addr} {h : Heap} {m : Str → Option Value} {own : List (Addr × Obj)} (Z : Fn c h₀ g L) (F : Fr g L h m) (N : News g L h own)
    (ho : ∀ x ∈ own, x.1 ≠ 44 ∧ x.1 ≠ 51 ∧ ¬ CodeLike x.2) (I : Inv c h) :
    ∃ p q fz, News g L h (own ++ (44, tabObj p) :: (51, tabObj q) :: fz) ∧ Pt g L own h p q fz ∧ Full g L own h fz := by
  obtain ⟨p, hp, tp⟩ := I.t44
  obtain ⟨q, hq, tq⟩ := I.t51
  have N' : News g L h (own ++ [(44, tabObj p), (51, tabObj q)]) := fun x hx => by
    rcases List.mem_append.mp hx with hx | hx
    · exact N x hx
    · rcases List.mem_cons.mp hx with rfl | hx
      · exact ⟨hp, Ne.symm Z.l44, Z.n44⟩
      · rcases List.mem_cons.mp hx with rfl | hx
        · exact ⟨hq, Ne.symm Z.l51, Z.n51⟩
        · cases hx
  obtain ⟨fz, Nf, Zf, Zg⟩ := freezeF F N'
  refine ⟨p, q, fz, Nf, ⟨Zf, tp, tq, fun b o e hc => ⟨fun z => ?_, fun z => ?_, fun z => ?_, fun y hy z => ?_⟩, hp, hq⟩, Zg⟩
  · obtain ⟨oL, es, ep, eL, hdL, _⟩ := F.ns
    obtain ⟨vs, _, _, hv, _⟩ := hc
    rw [z, eL] at e; cases e; rw [hdL] at hv; cases hv
  · rw [z, hp] at e; cases e; exact tab_not_code tp hc
  · rw [z, hq] at e; cases e; exact tab_not_code tq hc
  · have := (N y hy).1
    rw [← z, e] at this; cases this
    exact (ho y hy).2.2 hc

theorem in_signs (t : Str) : ([Str.ofString "-", Str.ofString "/", Str.ofString ")"].any fun x => x == t) = true ↔ (t = sM ∨ t = sD ∨ t = sC) := by
  simp only [List.any_cons, List.any_nil, Bool.or_false, Bool.or_eq_true, beq_iff_eq]
  constructor
  · rintro (h | h | h)
    · exact .inl h.symm
    · exact .inr (.inl h.symm)
    · exact .inr (.inr h.symm)
  · rintro (h | h | h)
    · exact .inl h.symm
    · exact .inr (.inl h.symm)
    · exact .inr (.inr h.symm)

section
variable {c : P0} {h₀ g : Heap} {L : Addr} {s₁ : Shared} {m₁ m₂ : Str → Option Value} {T W I ax : Addr} {vs kws : List Value} {nT nW : Nat} {trs : List Tree} {ws : List Str} {p q : Array Value} {fz news : List (Addr × Obj)} {h'' : Heap}
theorem own_two (Z : Fn c h₀ g L) (F : Fr g L s₁.heap m₁) (a : FCore L T W I ax s₁.heap vs kws nT nW trs ws) (I₁ : Inv c s₁.heap) :
    ∃ p q fz, News g L s₁.heap ((T, PySem.W.listOf vs.reverse.toArray nT) :: (W, PySem.W.listOf kws.reverse.toArray nW) :: (44, tabObj p) :: (51, tabObj q) :: fz) ∧
      Pt g L [(T, PySem.W.listOf vs.reverse.toArray nT), (W, PySem.W.listOf kws.reverse.toArray nW)] s₁.heap p q fz ∧ Full g L [(T, PySem.W.listOf vs.reverse.toArray nT), (W, PySem.W.listOf kws.reverse.toArray nW)] s₁.heap fz ∧
      (∀ x ∈ fz, x.1 ≠ T) ∧ (∀ x ∈ fz, x.1 ≠ W) ∧ @Ne Nat T W ∧ @LT.lt Nat _ 51 T ∧ @LT.lt Nat _ 51 W ∧ @LT.lt Nat _ 44 T ∧ @LT.lt Nat _ 44 W ∧ @LT.lt Nat _ L T ∧ @LT.lt Nat _ L W := by
  have hTf := Z.fresh F a.LT
  have hWf := Z.fresh F a.LW
  have ho : ∀ x ∈ [((T : Addr), PySem.W.listOf vs.reverse.toArray nT), ((W : Addr), PySem.W.listOf kws.reverse.toArray nW)], x.1 ≠ 44 ∧ x.1 ≠ 51 ∧ ¬ CodeLike x.2 := by
    intro x hx
    rcases List.mem_cons.mp hx with rfl | hx
    · exact ⟨hTf.2.2.1, hTf.2.2.2, not_code_list⟩
    · cases List.mem_singleton.mp hx; exact ⟨hWf.2.2.1, hWf.2.2.2, not_code_list⟩
  have N₁ : News g L s₁.heap [((T : Addr), PySem.W.listOf vs.reverse.toArray nT), ((W : Addr), PySem.W.listOf kws.reverse.toArray nW)] := by
    intro x hx
    rcases List.mem_cons.mp hx with rfl | hx
    · exact ⟨a.hT, hTf.1, hTf.2.1⟩
    · cases List.mem_singleton.mp hx; exact ⟨a.hW, hWf.1, hWf.2.1⟩
  obtain ⟨p1, q1, fz1, N2, P2, U2⟩ := renewF Z F N₁ ho I₁
  have T51 : @LT.lt Nat _ 51 T := Nat.lt_of_lt_of_le c.lt (Nat.le_trans Z.tl (Nat.le_of_lt a.LT))
  have W51 : @LT.lt Nat _ 51 W := Nat.lt_of_lt_of_le c.lt (Nat.le_trans Z.tl (Nat.le_of_lt a.LW))
  exact ⟨p1, q1, fz1, N2, P2, U2, U2.apart _ (List.mem_cons_self ..), U2.apart _ (List.mem_cons_of_mem _ (List.mem_cons_self ..)), a.TW, T51, W51, Nat.lt_trans (by decide) T51, Nat.lt_trans (by decide) W51, a.LT, a.LW⟩

theorem two_kept {oT oW : Obj} (Z : Fn c h₀ g L) (P : Pt g L [(T, oT), (W, oW)] s₁.heap p q fz) (F : Fr g L h'' m₂) (N : News g L h'' news) (hs : ∀ x ∈ fz, x ∈ news) :
    ∀ (b : Addr) o, @LT.lt Nat _ L b → b ≠ T → b ≠ W → s₁.heap.get? b = some o → h''.get? b = some o := fun b o hb hT hW e => by
  have h51 : @LT.lt Nat _ 51 b := Nat.lt_of_lt_of_le c.lt (Nat.le_trans Z.tl (Nat.le_of_lt hb))
  refine P.kept F N hs b o e (Nat.ne_of_gt hb) (Nat.ne_of_gt (Nat.lt_trans (by decide) h51)) (Nat.ne_of_gt h51) fun y hy => ?_
  rcases List.mem_cons.mp hy with rfl | hy
  · exact hT
  · cases List.mem_singleton.mp hy; exact hW
theorem two_below {oT oW : Obj} (Z : Fn c h₀ g L) (F : Fr g L s₁.heap m₁) (U : Full g L [(T, oT), (W, oW)] s₁.heap fz) {d : Addr} (hd : ∀ p ∈ fz, @LT.lt Nat _ p.1 d) :
    ∀ (b : Addr), @LT.lt Nat _ L b → b ≠ T → b ≠ W → s₁.heap.get? b ≠ none → @LT.lt Nat _ b d := fun b hb hT hW e => by
  have h51 : @LT.lt Nat _ 51 b := Nat.lt_of_lt_of_le c.lt (Nat.le_trans Z.tl (Nat.le_of_lt hb))
  cases q : s₁.heap.get? b with
  | none => exact absurd q e
  | some o =>
    refine hd (b, o) (U.all b o q (Nat.ne_of_gt hb) (Nat.ne_of_gt (Nat.lt_trans (by decide) h51)) (Nat.ne_of_gt h51) (fun y hy => ?_) (Heap.get?_none_of_le (Nat.le_trans F.above (Nat.le_of_lt hb))))
    rcases List.mem_cons.mp hy with rfl | hy
    · exact hT
    · cases List.mem_singleton.mp hy; exact hW

theorem front_core {oT oW : Obj} {W' : Addr} {vs' kws' : List Value} {nT' nW' : Nat} {trs' : List Tree} {ws' : List Str} (Z : Fn c h₀ g L) (P : Pt g L [(T, oT), (W, oW)] s₁.heap p q fz) (U : Full g L [(T, oT), (W, oW)] s₁.heap fz) (F₁ : Fr g L s₁.heap m₁)
    (a : FCore L T W I ax s₁.heap vs kws nT nW trs ws) (hI : s₁.heap.get? I ≠ none) (hax : s₁.heap.get? ax ≠ none) (LI : @LT.lt Nat _ L I) (La : @LT.lt Nat _ L ax) (F : Fr g L h'' m₂) (N : News g L h'' news) (hs : ∀ x ∈ fz, x ∈ news)
    (hT' : (T, PySem.W.listOf vs'.reverse.toArray nT') ∈ news) (hW' : (W', PySem.W.listOf kws'.reverse.toArray nW') ∈ news) (hw : W' = W ∨ (∃ news₀, Above L W' news₀ ∧ (∀ x ∈ fz, x ∈ news₀) ∧ ∃ o₀, (T, o₀) ∈ news₀))
    (ht : TreesAre (Sx L T W I) s₁.heap vs' trs') (hk : StrsAre kws' ws') : FCore L T W' I ax h'' vs' kws' nT' nW' trs' ws' := by
  have k := two_kept Z P F N hs
  have t2 : TreesAre (Sx L T W I) h'' vs' trs' := ht.keeps fun b o hb e => k b o hb.1 hb.2.1 hb.2.2.1 e
  rcases hw with rfl | ⟨news₀, hA, hs₀, o₀, hT₀⟩
  · exact ⟨(N _ hT').1, (N _ hW').1, t2, hk, a.LT, a.LW, a.TW, a.IT, a.IW, a.AT, a.AW⟩
  · have h2 := hA.lt
    have h3 := hA.all _ hT₀
    have b := two_below Z F₁ U (d := W') fun p hp => hA.all p (hs₀ p hp)
    have t3 : TreesAre (fun x => Sx L T W I x ∧ (x : Nat) ≠ W') s₁.heap vs' trs' := ht.mono fun x hx e => ⟨hx, Nat.ne_of_lt (b x hx.1 hx.2.1 hx.2.2.1 e)⟩
    have t4 : TreesAre (fun x => Sx L T W I x ∧ (x : Nat) ≠ W') h'' vs' trs' := t3.keeps fun x o hx e => k x o hx.1.1 hx.1.2.1 hx.1.2.2.1 e
    exact ⟨(N _ hT').1, (N _ hW').1, t4.mono fun x hx _ => ⟨hx.1.1, hx.1.2.1, hx.2, hx.1.2.2.2⟩, hk, a.LT, h2, Nat.ne_of_lt h3, a.IT, Nat.ne_of_lt (b I LI a.IT a.IW hI), a.AT, Nat.ne_of_lt (b ax La a.AT a.AW hax)⟩
theorem front_turn {s₀ : Shared} {oT oW : Obj} {W' : Addr} {vs' kws' : List Value} {nT' nW' tk i : Nat} {trs' : List Tree} {ws' : List Str} {items : Array Value} {ts : List Str} (Z : Fn c h₀ g L) (P : Pt g L [(T, oT), (W, oW)] s₁.heap p q fz) (U : Full g L [(T, oT), (W, oW)] s₁.heap fz) (F₁ : Fr g L s₁.heap m₁)
    (a : FCore L T W I ax s₁.heap vs kws nT nW trs ws) (st : s₁.heap.IsListIter I ax (i + 1) ∧ s₁.heap.IsList ax items) (LI : @LT.lt Nat _ L I) (La : @LT.lt Nat _ L ax) (F : Fr g L h'' m₂) (N : News g L h'' news) (hs : ∀ x ∈ fz, x ∈ news)
    (h44 : (44, tabObj p) ∈ news) (h51 : (51, tabObj q) ∈ news)
    (hT' : (T, PySem.W.listOf vs'.reverse.toArray nT') ∈ news) (hW' : (W', PySem.W.listOf kws'.reverse.toArray nW') ∈ news) (hw : W' = W ∨ (∃ news₀, Above L W' news₀ ∧ (∀ x ∈ fz, x ∈ news₀) ∧ ∃ o₀, (T, o₀) ∈ news₀))
    (ht : TreesAre (Sx L T W I) s₁.heap vs' trs') (hk : StrsAre kws' ws') (e1 : m₂ (Str.ofString "trees") = some (.ref T)) (e2 : m₂ (Str.ofString "waits") = some (.ref W'))
    (hf : fsteps ([], [sO]) (ts.take (i + 1)) = some (trs', ws')) (z1 : vs'.length ≤ i + 1) (z2 : kws'.length ≤ i + 2) (hg : s₁.gens = s₀.gens) (hos : s₁.os = s₀.os) :
    TurnW c g L (fun i h => h.IsListIter I ax i ∧ h.IsList ax items) (FJ s₀ L I ax ts) (i + 1) { s₁ with heap := h'', toks := tk } := by
  have k := two_kept Z P F N hs
  obtain ⟨⟨oi, hoi, ri⟩, ⟨oa, hoa, ra⟩⟩ := st
  have C := front_core (W' := W') Z P U F₁ a (by rw [hoi]; nofun) (by rw [hoa]; nofun) LI La F N hs hT' hW' hw ht hk
  exact ⟨⟨m₂, F, ⟨T, W', vs', kws', nT', nW', trs', ws', e1, e2, C, hf, z1, z2⟩, hg, hos⟩, P.inv Z F N hs h44 h51, ⟨oi, k _ _ LI a.IT a.IW hoi, ri⟩, ⟨oa, k _ _ La a.AT a.AW hoa, ra⟩⟩
theorem front_while {s₀ : Shared} {oT oW : Obj} {vx vy : Value} {vr kr : List Value} {nT' nW' nl tk i lim : Nat} {x y : Tree} {rest : List Tree} {w : Str} {wr : List Str} {tw : Tok} {items : Array Value} {res : List Tree × List Str} {l : Addr} {tok : Value} {news₀ : List (Addr × Obj)}
    (Z : Fn c h₀ g L) (P : Pt g L [(T, oT), (W, oW)] s₁.heap p q fz) (U : Full g L [(T, oT), (W, oW)] s₁.heap fz) (F₁ : Fr g L s₁.heap m₁)
    (a : FCore L T W I ax s₁.heap (vx :: vy :: vr) (Value.str w tw :: kr) nT nW (x :: y :: rest) (w :: wr)) (st : s₁.heap.IsListIter I ax i ∧ s₁.heap.IsList ax items) (LI : @LT.lt Nat _ L I) (La : @LT.lt Nat _ L ax) (F : Fr g L h'' m₂) (N : News g L h'' news) (hs : ∀ x ∈ fz, x ∈ news)
    (h44 : (44, tabObj p) ∈ news) (h51 : (51, tabObj q) ∈ news)
    (hT' : (T, PySem.W.listOf (vr.reverse ++ [Value.ref l]).toArray nT') ∈ news) (hW' : (W, PySem.W.listOf kr.reverse.toArray nW') ∈ news) (hl : (l, PySem.W.listOf #[.str w tw, vy, vx] nl) ∈ news)
    (hA : Above L l news₀) (hs₀ : ∀ x ∈ fz, x ∈ news₀) (hT₀ : ∃ o₀, (T, o₀) ∈ news₀) (hW₀ : ∃ o₀, (W, o₀) ∈ news₀)
    (e1 : m₂ (Str.ofString "trees") = some (.ref T)) (e2 : m₂ (Str.ofString "waits") = some (.ref W)) (e3 : m₂ (Str.ofString "token") = some tok)
    (hr : red lim wr (.node w y x :: rest) = some res) (z1 : (vx :: vy :: vr).length ≤ i) (z2 : (Value.str w tw :: kr).length ≤ i) (hg : s₁.gens = s₀.gens) (hos : s₁.os = s₀.os) :
    WJ c s₀ g L T W I ax lim tok i items res wr.length { s₁ with heap := h'', toks := tk } := by
  have k := two_kept Z P F N hs
  obtain ⟨⟨oi, hoi, ri⟩, ⟨oa, hoa, ra⟩⟩ := st
  obtain ⟨o₁, hT₁⟩ := hT₀
  obtain ⟨o₂, hW₁⟩ := hW₀
  have b := two_below Z F₁ U (d := l) fun p hp => hA.all p (hs₀ p hp)
  have hk : StrsAre kr wr := by
    cases a.waits with
    | cons _ _ h => exact h
  have ht := a.trees
  cases ht with
  | cons tx ht => cases ht with
    | cons ty ht =>
      have k' : ∀ b o, Sx L T W I b → s₁.heap.get? b = some o → h''.get? b = some o := fun b o hb e => k b o hb.1 hb.2.1 hb.2.2.1 e
      have hSl : Sx L T W I l := ⟨hA.lt, Nat.ne_of_gt (hA.all _ hT₁), Nat.ne_of_gt (hA.all _ hW₁), Nat.ne_of_gt (b I LI a.IT a.IW (by rw [hoi]; nofun))⟩
      have C : FCore L T W I ax h'' (Value.ref l :: vr) kr nT' nW' (.node w y x :: rest) wr :=
        ⟨by rw [List.reverse_cons]; exact (N _ hT').1, (N _ hW').1, .cons ⟨l, tw, vy, vx, _, rfl, hSl, (N _ hl).1, ty.keeps k', tx.keeps k'⟩ (ht.keeps k'), hk, a.LT, a.LW, a.TW, a.IT, a.IW, a.AT, a.AW⟩
      simp only [List.length_cons] at z1 z2
      exact ⟨⟨_, _, _, _, _, _, _, rfl, e1, e2, e3, C, hr, F, by rw [List.length_cons]; omega, by omega⟩, P.inv Z F N hs h44 h51, ⟨⟨oi, k _ _ LI a.IT a.IW hoi, ri⟩, ⟨oa, k _ _ La a.AT a.AW hoa, ra⟩⟩, hg, hos⟩
end
end Mine

end
section
local macro_rules | `(tactic| k_all) => `(tactic| with_reducible assumption)
section
open PySem PySem.W PyProof.Rows PySem.Calls PySem.Spec
namespace Mine
theorem fillR2 : ∀ (w : World) (h : Heap), (hd.heap_39 w.params).In h → model PySem.Challenge.rw_ph0043_01.prog w = model PySem.Challenge.rw_ph0043_01.prog w := by
  k_fill
  intro w h _; rfl
set_option maxRecDepth 100000 in
set_option maxHeartbeats 4000000 in
theorem front_spec : ∀ (ts : List Str) (tr : Tree), frontO ts = some tr → ts.length ≤ 1000 → ∀ (c : P0) (A : Around) (s : Shared) (l : Addr) (vs : List Value) (n : Nat), l ≠ 44 → l ≠ 51 → LAt s.heap l vs n → StrsAre vs ts → Inv c s.heap → Rm A 3 →
    Calls c A (.ref 77) [.ref l] s (IsTree s.heap.objs.size tr) := by
  k_with_none
  k_with "m_inv" => exact Pt.inv (by assumption) (by assumption) (by k_asm) (by k_asm) (by walk_at "m_fz") (by walk_at "m_tab") (by walk_at "m_tab")
  k_with "m_at" => first | exact (News.get (by k_asm) (by k_mem)) | exact Fr.keep (by k_asm) _ _ (by assumption)
  k_with "m_room" => (rw [PySem.sizeLine_eq]; (try simp only [List.length_append, List.length_cons, List.length_nil, List.length_reverse]); omega)
  k_with "assign Tuple" => (k_here; (with_reducible show wpAny _ _ (assign (Expr.Tuple _ _ _) _ (Value.ref _)) _ _ _); k_dflt (refine' unpackN_ ?zqF ?zqN ?zqT ?zqk1 ?zqk2 ?zqk3 ?_; (case zqF => k_asm); (case zqN => k_asm); (case zqT => (refine News.isTup (by k_asm) (by k_mem))); (case zqk1 => exact Rm.handled (by assumption)); (case zqk2 => exact rfl); (case zqk3 => exact rfl)); intro _ _ _)
  k_with "assign Tuple" => (k_here; (with_reducible show wpAny _ _ (assign (Expr.Tuple _ _ _) _ (Value.ref _)) _ _ _); k_dflt (refine' kun_list ?zqk1 ?zqk2 ?zqk3 ?zqk4 ?zqk5 ?zqk6 ?_; (case zqk1 => k_asm); (case zqk2 => k_asm); (case zqk3 => is_list); (case zqk4 => exact Rm.handled (by assumption)); (case zqk5 => exact rfl); (case zqk6 => exact rfl); k_whole); intro _ _ _)
  k_with "unpackItems ref" => (k_here; k_dflt (refine' unpackItemsN_ ?zqk1 ?zqk2 ?zqk3 ?zqk4 ?zqk5 ?_; (case zqk1 => k_asm); (case zqk2 => k_asm); (case zqk3 => kun_tup); (case zqk4 => exact Rm.handled (by assumption)); (case zqk5 => exact rfl); k_whole); intro _ _ _; (try k_sweep))
  k_with "newList" => (k_here; k_dflt (refine' newList_A ?zqk1 ?zqk2 ?_; (case zqk1 => k_asm); (case zqk2 => k_asm); k_whole); walk_at "m_t6")
  k_with "binaryOp Add ref ref" => (k_here; (with_reducible show wpAny _ _ (binaryOp _ (Value.ref _) (Value.ref _)) _ _ _); k_dflt (refine' add_LG ?zqk1 ?zqk2 ?zqk3 ?zqk4 ?_ ?zqk5; (case zqk1 => k_asm); (case zqk2 => k_asm); (case zqk3 => walk_at "m_at"); (case zqk4 => walk_at "m_at"); (case zqk5 => walk_at "m_room"); k_whole); walk_at "m_t6")
  k_with "subscriptTail Name UnaryOp ref int" => (k_here; k_dflt (refine' last_LG ?zqk1 ?_ ?zqk2 ?zqk3; (case zqk1 => walk_at "m_at"); (case zqk2 => with_unfolding_all rfl); (case zqk3 => intro _; with_unfolding_all rfl)))
  k_with "call builtin:str.index" => (k_here; refine index_rank (by assumption) ?_; intro _ _)
  k_with "subscriptTail Name Slice ref ref" => (k_here; k_dflt (refine' slice_LG ?zqF ?zqN ?zql ?zqp ?zqq ?_ ?zqz ?zqs ?zqt; (case zqF => k_asm); (case zqN => k_asm); (case zql => walk_at "m_at"); (case zqp => first | exact IsPart.none | exact IsPart.int _ _); (case zqq => first | exact IsPart.none | exact IsPart.int _ _); (case zqz => walk_at "m_room"); (case zqs => with_unfolding_all rfl); (case zqt => intro _; with_unfolding_all rfl)); walk_at "m_t6")
  k_with "subscriptTail Name Constant ref int" => (k_here; (with_reducible show wpAny _ _ (subscriptTail _ _ (Value.ref _) (Value.int 0 _)) _ _ _); k_dflt (refine' item0_LG ?zqk1 ?_ ?zqk2 ?zqk3; (case zqk1 => walk_at "m_at"); (case zqk2 => with_unfolding_all rfl); (case zqk3 => intro _; with_unfolding_all rfl)))
  k_with "exec For" => (k_here; k_dflt (refine' wpAny_For ?_))
  k_with "exec While" => (k_here; with_reducible refine wpAny_While ?_)
  k_with "call builtin:list.append" => (k_here; k_dflt (refine' append_LG ?zqk1 ?zqk2 ?zqk3 ?zqk4 ?_; (case zqk1 => k_asm); (case zqk2 => k_asm); (case zqk3 => k_upd); (case zqk4 => walk_at "m_room"); k_whole); intro _ _ _)
  k_with "call builtin:list.pop" => (k_here; k_dflt (refine' pop_LG ?zqk1 ?zqk2 ?zqk3 ?zqk4 ?_; (case zqk1 => k_asm); (case zqk2 => k_asm); (case zqk3 => k_upd); (case zqk4 => walk_at "m_room"); k_whole); intro _ _ _)
  intro ts tr hfr hlen c A s l vs n h44 h51 hl hvs I hA R hR
  refine' enterM (binds := [(Str.ofString "tokens", .ref l)]) I ?k1 ?k2 hA.lt ?k4 ?k5 ?_ ?c2 ?c3 ?c4 ?c5
  case k1 => k_is
  case k2 => k_is
  case k4 => exact BindsTo.of_eq rfl
  case k5 => exact locs rfl
  case c2 => exact rfl
  case c3 => exact rfl
  case c4 => exact rfl
  case c5 => decide
  intro g L h₁ p q fz AA hAA Z F N P ext X T
  have hA1 := hAA 2 hA
  have hlg : LAt g l vs n := Z.old _ _ hl h44 h51
  have hvl := hvs.length
  show wpAny _ _ _ _ _ _
  k_fold
  k_steps
  rename Fr _ _ _ _ => F1
  rename News _ _ _ _ => N1
  refine wpAny_pyIter_list (News.isList N1 (List.mem_cons_self ..)) ?_
  have I1 := Pt.inv Z P F1 N1 (by walk_at "m_fz") (by walk_at "m_tab") (by walk_at "m_tab")
  have hL1 := F1.ns.lt
  obtain ⟨T0, W0, tk0, eT0, eW0, C1, hax1, lax⟩ := front_start F1 N1 (by assumption) (by assumption) (by omega) (by omega) (by omega) (by assumption) rfl rfl
  dsimp only at hax1 ⊢
  have hAI := Heap.lt_size hax1
  generalize hits : (vs ++ [Value.str (Str.ofString ")") _]) = ivs at *
  have hiv : StrsAre ivs (ts ++ [sC]) := by rw [← hits]; exact hvs.append' (.cons _ _ .nil)
  rename LAt _ _ ivs 0 => hax1
  rename_i ax h1 _ _
  have kp : ∀ b o, h1.get? b = some o → (h1.push { cls := .type "list_iterator", data := .fields #[.ref ax, .int 0 0] }).get? b = some o := fun b o e => Heap.get?_push_of_some _ e
  have hfs : ∃ st, fsteps ([], [sO]) (ts ++ [sC]) = some st ∧ st.1.getLast? = some tr := by
    unfold frontO at hfr
    split at hfr
    · rename_i a b e; exact ⟨_, e, hfr⟩
    · cases hfr
  obtain ⟨st, hst, hlast⟩ := hfs
  refine walk_loop (Walks.list hA1.handled h1.objs.size ax (Nat.ne_of_lt hAI) ivs.toArray) Z rfl rfl rfl (fun b hb => by cases List.mem_singleton.mp hb; exact hL1) (fun i h st b hb o e hc => ?_)
    (fun hb => ?_) (FJ s L h1.objs.size ax (ts ++ [sC])) (fun i m' s' h' tk j k => ?_) (F1.push _) (I1.keeps kp (by rw [Heap.size_push]; exact Nat.le_succ_of_le I1.size)) ⟨⟨_, Heap.get?_push_size _ rfl, rfl, rfl⟩, ⟨_, kp _ _ hax1, rfl, _, rfl⟩⟩
    ⟨⟨T0, W0, [], _, 0, 0, [], [sO], eT0, eW0, C1.keeps fun b o _ _ e => kp b o e, rfl, Nat.le_refl _, Nat.le_refl _⟩, rfl, rfl⟩ (fun i v m₁ s₁ hi hv hj I₁ st₁ F₁ => ?_) (fun s' m' I' F' hj => ?_)
  · cases List.mem_singleton.mp hb
    obtain ⟨⟨o', h1, _, h2⟩, _⟩ := st
    rw [h1] at e; cases e
    obtain ⟨vs, q', t', hd', hv'⟩ := hc
    rw [h2] at hd'; cases hd'; cases hv'
  · rcases List.mem_cons.mp hb with e | hb
    · exact absurd hL1 (Nat.not_lt.mpr (Nat.le_of_eq e.symm))
    · cases List.mem_singleton.mp hb; exact Nat.lt_irrefl _ lax
  · obtain ⟨T, W, vs, kws, nT, nW, trs, ws, a1, a2, a3, a4, z1, z2⟩ := j.ex
    exact ⟨⟨T, W, vs, kws, nT, nW, trs, ws, a1, a2, a3.keeps fun b o h2 h3 e => k b o (fun z => h3 (List.mem_singleton.mp z)) (Nat.ne_of_gt h2) e, a4, z1, z2⟩, j.gens, j.os⟩
  · obtain ⟨T, W, vs, kws, nT, nW, trs, ws, a1, a2, a3, a4, z1, z2⟩ := hj.ex
    rw [List.getElem?_toArray] at hv
    obtain ⟨t, tt, rfl, htk⟩ := hiv.item i v hv
    have hstep : ∃ st', fstep (trs, ws) t = some st' ∧ fsteps ([], [sO]) ((ts ++ [sC]).take (i + 1)) = some st' := by
      have e : (ts ++ [sC]).take (i + 1) = (ts ++ [sC]).take i ++ [t] := by rw [List.take_add_one, htk]; rfl
      have e2 : ts ++ [sC] = (ts ++ [sC]).take (i + 1) ++ (ts ++ [sC]).drop (i + 1) := (List.take_append_drop ..).symm
      rw [e2, e, fsteps_app, fsteps_app, a4] at hst
      rw [e, fsteps_app, a4]
      dsimp only [fsteps] at hst ⊢
      cases hf : fstep (trs, ws) t with
      | none => rw [hf] at hst; cases hst
      | some st' => exact ⟨st', rfl, rfl⟩
    obtain ⟨st', hf, hfi⟩ := hstep
    have F₀ : True → Fr g L s₁.heap _ := fun _ => F₁
    rw [map_as a1, map_as a2] at F₁
    obtain ⟨p1, q1, fz1, N2, P2, U2, aT, aW, TW, T51, W51, T44, W44, LT', LW'⟩ := own_two Z F₁ a3 I₁
    have hi2 : i ≤ 1001 := by
      rw [List.size_toArray, hiv.length, List.length_append, List.length_singleton] at hi; omega
    clear F1 N1 P C1 eT0 eW0 kp hits hax1 hAI hlg hvl hl hvs h44 h51 ext hlen hi hv htk hfr hst hlast I1 hAA hA
    rename_i y1 y2 y3 y4 y5 y6 y7 y8 y9 y10 y11 y12
    try clear y12
    try clear y11
    try clear y10
    try clear y9
    try clear y8
    try clear y7
    try clear y6
    try clear y5
    try clear y4
    try clear y3
    try clear y2
    try clear y1
    show wpAny _ _ _ _ _ _
    k_fold
    k_steps
    · rename List.any _ _ = true => hany
      have hin := (in_signs t).mp hany
      unfold fstep at hf
      rw [if_pos hin] at hf
      dsimp only at hf
      generalize hlim : (if t = sD then 2 else 1) = lim at hf
      cases hred : red lim ws trs with
      | none => rw [hred] at hf; cases hf
      | some res =>
      rw [hred] at hf
      dsimp only at hf
      rename Fr _ _ _ _ => F3
      rename News _ _ _ _ => N3
      have hk3 := two_kept Z P2 F3 N3 (by walk_at "m_fz")
      obtain ⟨⟨oi, hoi, ri⟩, ⟨oa, hoa, ra⟩⟩ := id st₁
      have C3 := front_core (W' := W) (vs' := vs) (kws' := kws) Z P2 U2 (F₀ trivial) a3 (by rw [hoi]; nofun) (by rw [hoa]; nofun) hL1 lax F3 N3 (by walk_at "m_fz") (by k_mem) (by k_mem) (.inl rfl) a3.trees a3.waits
      have I3 := Pt.inv Z P2 F3 N3 (by walk_at "m_fz") (by walk_at "m_tab") (by walk_at "m_tab")
      refine codeAny_whileLoop (fun n s' => WJ c s g L T W h1.objs.size ax lim (.str t tt) (i + 1) ivs.toArray res n s') (fun n s' hJ => ?_) ws.length
        ⟨⟨vs, kws, nT, nW, trs, ws, _, rfl, rfl, rfl, rfl, C3, hred, F3, by omega, z2⟩, I3, ⟨⟨oi, hk3 _ _ hL1 a3.IT a3.IW hoi, ri⟩, ⟨oa, hk3 _ _ lax a3.AT a3.AW hoa, ra⟩⟩, hj.gens, hj.os⟩
      clear C3 hk3 F3 N3 I3 aT aW T51 W51 T44 W44 LT' LW' TW P2 U2 F₀ hoi ri hoa ra hj I₁ st₁ a1 a2 a3 z1 z2 hred
      obtain ⟨vs, kws, nT, nW, trs, ws, m', hn, b1, b2, b3, C, hr, F, y1, y2⟩ := hJ.ex
      have J' := hJ.inv
      have st := hJ.st
      have F₀ : True → Fr g L s'.heap _ := fun _ => F
      rw [map_as b1, map_as b2, map_as b3] at F
      cases ws with
      | nil => cases hr
      | cons w wr =>
      obtain ⟨tw, kr, rfl, hkr⟩ := C.waits.cons_inv
      rw [red_S] at hr
      cases hrank : rank w with
      | none => rw [hrank] at hr; cases hr
      | some r =>
      rw [hrank] at hr
      dsimp only at hr
      obtain ⟨p1, q1, fz1, N2, P2, U2, aT, aW, TW, T51, W51, T44, W44, LT', LW'⟩ := own_two Z F C J'
      rw [List.reverse_cons] at N2
      rw [List.length_cons] at y2
      by_cases hle : lim ≤ r
      · rw [if_pos hle] at hr
        split at hr
        · rename_i x y rest
          have hTs := C.trees
          cases hTs with
          | cons tx hTs =>
          rename_i vx vr0
          cases hTs with
          | cons ty hTs =>
          rename_i vy vr
          rw [List.reverse_cons, List.reverse_cons] at N2
          simp only [List.length_cons] at y1
          have hlr : (lim : Int) ≤ (r : Int) := by omega
          cases htd : (t == Str.ofString "/") with
          | true =>
            have hl2 : lim = 2 := by rw [← hlim, if_pos (eq_of_beq htd)]
            subst hl2
            show wpAny _ _ _ _ _ _
            k_fold
            k_steps
            rotate_left 2
            · exact wr.length
            · rw [hn]; exact Nat.lt_succ_self _
            · rename Fr _ _ _ _ => F5
              rename News _ _ _ _ => N5
              rename Above _ _ _ => lA
              exact front_while (s₁ := s') Z P2 U2 (F₀ trivial) C st hL1 lax F5 N5 (by walk_at "m_fz") (by walk_at "m_tab") (by walk_at "m_tab") (by k_mem) (by k_mem) (by k_mem) lA (by walk_at "m_fz") ⟨_, by k_mem⟩ ⟨_, by k_mem⟩ rfl rfl rfl hr (by simp only [List.length_cons]; omega) (by simp only [List.length_cons]; omega) hJ.gens hJ.os
          | false =>
            have hl2 : lim = 1 := by rw [← hlim, if_neg (ne_of_beq_false htd)]
            subst hl2
            show wpAny _ _ _ _ _ _
            k_fold
            k_steps
            rotate_left 2
            · exact wr.length
            · rw [hn]; exact Nat.lt_succ_self _
            · rename Fr _ _ _ _ => F5
              rename News _ _ _ _ => N5
              rename Above _ _ _ => lA
              exact front_while (s₁ := s') Z P2 U2 (F₀ trivial) C st hL1 lax F5 N5 (by walk_at "m_fz") (by walk_at "m_tab") (by walk_at "m_tab") (by k_mem) (by k_mem) (by k_mem) lA (by walk_at "m_fz") ⟨_, by k_mem⟩ ⟨_, by k_mem⟩ rfl rfl rfl hr (by simp only [List.length_cons]; omega) (by simp only [List.length_cons]; omega) hJ.gens hJ.os
        · cases hr
      · rw [if_neg hle] at hr
        cases hr
        have hlr : ¬ (lim : Int) ≤ (r : Int) := by omega
        cases htd : (t == Str.ofString "/") with
        | true =>
          have hl2 : lim = 2 := by rw [← hlim, if_pos (eq_of_beq htd)]
          subst hl2
          show wpAny _ _ _ _ _ _
          k_fold
          k_steps
          · rename (t == Str.ofString ")") = true => htc
            rename Fr _ _ _ _ => F5
            rename News _ _ _ _ => N5
            rename Above _ _ _ => lA
            rw [if_pos (eq_of_beq htc)] at hf
            cases hf
            rw [pick_init] at N5
            exact front_turn (s₁ := s') (kws' := kr) (vs' := vs) Z P2 U2 (F₀ trivial) C st hL1 lax F5 N5 (by walk_at "m_fz") (by walk_at "m_tab") (by walk_at "m_tab") (by k_mem) (by k_mem) (.inr ⟨_, lA, by intro x hx; simp [hx], _, by k_mem⟩) C.trees hkr rfl rfl hfi y1 (by omega) hJ.gens hJ.os
          · rename (t == Str.ofString ")") = false => htc
            rename Fr _ _ _ _ => F5
            rename News _ _ _ _ => N5
            rename Above _ _ _ => lA
            rw [if_neg (ne_of_beq_false htc)] at hf
            cases hf
            exact front_turn (s₁ := s') (kws' := .str t tt :: .str w tw :: kr) (vs' := vs) Z P2 U2 (F₀ trivial) C st hL1 lax F5 N5 (by walk_at "m_fz") (by walk_at "m_tab") (by walk_at "m_tab") (by k_mem) (by rw [List.reverse_cons, List.reverse_cons]; k_mem) (.inr ⟨_, lA, by intro x hx; simp [hx], _, by k_mem⟩) C.trees (.cons _ _ C.waits) rfl rfl hfi y1 (by simp only [List.length_cons]; omega) hJ.gens hJ.os
        | false =>
          have hl2 : lim = 1 := by rw [← hlim, if_neg (ne_of_beq_false htd)]
          subst hl2
          show wpAny _ _ _ _ _ _
          k_fold
          k_steps
          · rename (t == Str.ofString ")") = true => htc
            rename Fr _ _ _ _ => F5
            rename News _ _ _ _ => N5
            rename Above _ _ _ => lA
            rw [if_pos (eq_of_beq htc)] at hf
            cases hf
            rw [pick_init] at N5
            exact front_turn (s₁ := s') (kws' := kr) (vs' := vs) Z P2 U2 (F₀ trivial) C st hL1 lax F5 N5 (by walk_at "m_fz") (by walk_at "m_tab") (by walk_at "m_tab") (by k_mem) (by k_mem) (.inr ⟨_, lA, by intro x hx; simp [hx], _, by k_mem⟩) C.trees hkr rfl rfl hfi y1 (by omega) hJ.gens hJ.os
          · rename (t == Str.ofString ")") = false => htc
            rename Fr _ _ _ _ => F5
            rename News _ _ _ _ => N5
            rename Above _ _ _ => lA
            rw [if_neg (ne_of_beq_false htc)] at hf
            cases hf
            exact front_turn (s₁ := s') (kws' := .str t tt :: .str w tw :: kr) (vs' := vs) Z P2 U2 (F₀ trivial) C st hL1 lax F5 N5 (by walk_at "m_fz") (by walk_at "m_tab") (by walk_at "m_tab") (by k_mem) (by rw [List.reverse_cons, List.reverse_cons]; k_mem) (.inr ⟨_, lA, by intro x hx; simp [hx], _, by k_mem⟩) C.trees (.cons _ _ C.waits) rfl rfl hfi y1 (by simp only [List.length_cons]; omega) hJ.gens hJ.os
    · rename List.any _ _ = false => hany
      rename (t == _) = true => hto
      have hin : ¬ (t = sM ∨ t = sD ∨ t = sC) := fun z => by rw [(in_signs t).mpr z] at hany; cases hany
      unfold fstep at hf
      rw [if_neg hin, if_pos (eq_of_beq hto)] at hf
      cases hf
      rename Fr _ _ _ _ => F3
      rename News _ _ _ _ => N3
      rename Above _ _ _ => lA
      exact front_turn (kws' := .str t tt :: kws) (vs' := vs) Z P2 U2 (F₀ trivial) a3 st₁ hL1 lax F3 N3 (by walk_at "m_fz") (by walk_at "m_tab") (by walk_at "m_tab") (by k_mem) (by rw [List.reverse_cons]; k_mem) (.inr ⟨_, lA, by intro x hx; simp [hx], _, by k_mem⟩) a3.trees (.cons _ _ a3.waits) rfl rfl hfi (by omega) (by rw [List.length_cons]; omega) hj.gens hj.os
    · rename List.any _ _ = false => hany
      rename (t == _) = false => hto
      have hin : ¬ (t = sM ∨ t = sD ∨ t = sC) := fun z => by rw [(in_signs t).mpr z] at hany; cases hany
      unfold fstep at hf
      rw [if_neg hin, if_neg (ne_of_beq_false hto)] at hf
      cases hf
      rename Fr _ _ _ _ => F3
      rename News _ _ _ _ => N3
      exact front_turn (kws' := kws) (vs' := .str t tt :: vs) Z P2 U2 (F₀ trivial) a3 st₁ hL1 lax F3 N3 (by walk_at "m_fz") (by walk_at "m_tab") (by walk_at "m_tab") (by rw [List.reverse_cons]; k_mem) (by k_mem) (.inl rfl) (.cons (show TreeAt _ _ (.leaf t) _ from ⟨_, rfl⟩) a3.trees) a3.waits rfl rfl hfi (by rw [List.length_cons]; omega) (by omega) hj.gens hj.os
  · obtain ⟨T, W, vs, kws, nT, nW, trs, ws, a1, a2, a3, a4, z1, z2⟩ := hj.ex
    rw [map_as a1] at F'
    have e2 : (ts ++ [sC]).take ivs.toArray.size = ts ++ [sC] := List.take_of_length_le (by rw [List.size_toArray, hiv.length]; exact Nat.le_refl _)
    rw [e2, hst] at a4
    cases a4
    obtain ⟨v0, vr, rfl, hT0⟩ := a3.trees.last hlast
    have F₀ : True → Fr g L s'.heap _ := fun _ => F'
    obtain ⟨p1, q1, fz1, N2, P2, U2, aT, aW, TW, T51, W51, T44, W44, LT', LW'⟩ := own_two Z F' a3 I'
    rw [List.reverse_append, List.reverse_singleton, List.singleton_append] at N2
    clear F1 N1 P
    show wpAny _ _ _ _ _ _
    k_steps
    rename Fr _ _ _ _ => F5
    rename News _ _ _ _ => N5
    have k5 := two_kept Z P2 F5 N5 (by walk_at "m_fz")
    exact hR _ _ (fin (s' := Shared.mk _ _ _ _ _) Z F5 (Pt.inv Z P2 F5 N5 (by walk_at "m_fz") (by walk_at "m_tab") (by walk_at "m_tab")) (fun _ _ e => by rw [hj.gens]; exact e) (fun e => by rw [hj.gens]; exact e) hj.os)
      ⟨(hT0.keeps fun b o hb e => k5 b o hb.1 hb.2.1 hb.2.2.1 e).mono fun b hb _ => Nat.le_trans Z.le (Nat.le_of_lt hb.1)⟩
end Mine

end
section
open PySem PySem.W PyProof.Rows PySem.Calls PySem.Spec
namespace Mine
/-- a step that only adds to the heap; C is the frame at hand -/
structure Quiet (g : Heap) (C : Addr) (m : Str → Option Value) (s s' : Shared) : Prop where
  ex : ∃ h' tk, s' = { s with heap := h', toks := tk } ∧ Fr g C h' m ∧ ∀ b o, b ≠ C → s.heap.get? b = some o → h'.get? b = some o
/-- the same for any frame, for loops: all but the frame stays -/
theorem fr_but {g h h' : Heap} {C : Addr} {m m' : Str → Option Value} (F : Fr g C h m) (hn : h'.Ns C m') (k : ∀ b o, b ≠ C → h.get? b = some o → g.get? b ≠ none → h'.get? b = some o) : Fr g C h' m' := by
  refine ⟨hn, fun b o e => k b o (fun z => ?_) (F.keep b o e) (by rw [e]; nofun), F.above⟩
  exact absurd (Heap.lt_size e) (Nat.not_lt.mpr (by rw [z]; exact F.above))

section
variable {prog : Program} {w : World} {A : Around} {R : Result → Shared → Prop} {s : Shared}
theorem comp_loop {elt iter : Expr} {x : Str} {px : Pos} {ifs : List Expr} {scope : Scope} {pos : Pos} {I D : Addr} {fp wr : List Addr} {n : Nat} {P : Nat → Value → Prop} {St : Nat → Heap → Prop}
    {cenv : Env} {m : Str → Option Value} {g : Heap} (W : Walks prog w A I fp wr n P St) (p : Value → Bool) (Fv : Value → Value → Prop)
    (hx : cenv.kindOf x = some .local) (hp : (cenv.scope.kind == .class || (cenv.scope.kind == .module && cenv.locals != cenv.globals)) = false)
    (hDC : D ≠ cenv.locals) (hDf : D ∉ fp) (hCf : cenv.locals ∉ fp) (hgD : g.get? D = none) (hgw : ∀ b ∈ wr, g.get? b = none)
    (hst : St 0 s.heap) (hacc : s.heap.PlainList D #[]) (F : Fr g cenv.locals s.heap m)
    (htests : ∀ i v s₂ m₂, P i v → Fr g cenv.locals s₂.heap m₂ → m₂ x = some v → 
      wpAny (model prog w) A (forIn ifs true fun c r => if r = true then do let ok ← isTrue c cenv (eval c cenv); pure (ForInStep.yield ok) else pure (ForInStep.yield r))
        (fun ok s₃ => ok = p v ∧ Quiet g cenv.locals m₂ s₂ s₃) (fun _ _ => False) s₂)
    (helt : ∀ i v s₂ m₂, P i v → p v = true → Fr g cenv.locals s₂.heap m₂ → m₂ x = some v → 
      wpAny (model prog w) A (eval elt cenv) (fun y s₃ => Fv v y ∧ Quiet g cenv.locals m₂ s₂ s₃) (fun _ _ => False) s₂)
    (hR : ∀ h' tk m' ys (vs : List Value), Fr g cenv.locals h' m' → h'.PlainList D ys → vs.length = n → (∀ j v, vs[j]? = some v → P j v) → Paired Fv (vs.filter p) ys.toList → R (.ok .next) { s with heap := h', toks := tk })
    (hsz : n ≤ sizeLine) :
    codeAny (model prog w) A (.compLoop (.ListComp elt [⟨.Name x px, iter, ifs, 0⟩] scope pos) 0 (.ref I) (.ref D) cenv) R s := by
  refine codeAny_compLoop_tests
    (fun k s' => ∃ h' tk m' ys, ∃ vs : List Value, s' = { s with heap := h', toks := tk } ∧ St vs.length h' ∧ h'.PlainList D ys ∧ Fr g cenv.locals h' m' ∧ (∀ j v, vs[j]? = some v → P j v) ∧
      Paired Fv (vs.filter p) ys.toList ∧ vs.length ≤ n ∧ k = n + 1 - vs.length) ?_ (n + 1)
    ⟨s.heap, s.toks, m, #[], [], rfl, hst, hacc, F, by simp, by simpa using Paired.nil, Nat.zero_le _, rfl⟩
  rintro k s' ⟨H, tk, m', ys, vs, rfl, hst', hacc', F', hP, hF, hi, rfl⟩
  have hCw : cenv.locals ∉ wr := fun h => hCf (W.sub _ h)
  have hDw : D ∉ wr := fun h => hDf (W.sub _ h)
  have gw : ∀ b, g.get? b ≠ none → b ∉ wr := fun b hb hw => hb (hgw b hw)
  have gD : ∀ b, g.get? b ≠ none → b ≠ D := fun b hb e => hb (by rw [e]; exact hgD)
  by_cases hlt : vs.length < n
  · refine W.item vs.length _ _ _ hlt hst' fun v h₁ tk₁ hPv hst₁ hk₁ => ?_
    have F₁ : Fr g cenv.locals h₁ m' := ⟨F'.ns.at' fun o e => hk₁ _ o hCw e, fun b o e => hk₁ b o (gw b (by rw [e]; nofun)) (F'.keep b o e), F'.above⟩
    refine wpAny_assign_Name (wpAny_storeName_local hx F₁.ns (fun h₂ hn₂ hs₂ => ?_) hp)
    replace hs₂ : Heap.SameBut cenv.locals h₁ h₂ := hs₂
    have F₂ := F₁.set hn₂ hs₂
    have hst₂ : St (vs.length + 1) h₂ := W.frame _ _ _ hst₁ fun b hb o e => hs₂.extBut b o (fun h => hCf (h ▸ hb)) e
    have hacc₂ : h₂.PlainList D ys := hacc'.at fun o e => hs₂.extBut _ o hDC (hk₁ _ o hDw e)
    refine wpAny_mono (htests vs.length v _ _ hPv F₂ (by simp)) (fun ok s₃ h₃ => ?_) fun _ _ e => e.elim
    obtain ⟨rfl, ⟨h₃, tk₃, rfl, F₃, hk₃⟩⟩ := h₃
    have hst₃ : St (vs.length + 1) h₃ := W.frame _ _ _ hst₂ fun b hb o e => hk₃ b o (fun h => hCf (h ▸ hb)) e
    have hacc₃ : h₃.PlainList D ys := hacc₂.at fun o e => hk₃ _ o hDC e
    have hP' : ∀ j u, (vs ++ [v])[j]? = some u → P j u := fun j u hj => by
      rcases Nat.lt_trichotomy j vs.length with h | h | h
      · exact hP j u (by rwa [List.getElem?_append_left h] at hj)
      · subst h; simp at hj; subst hj; exact hPv
      · have hnone : (vs ++ [v])[j]? = none := List.getElem?_eq_none (by rw [List.length_append, List.length_singleton]; omega)
        rw [hnone] at hj; cases hj
    have hln : (vs ++ [v]).length = vs.length + 1 := by rw [List.length_append, List.length_singleton]
    cases hpv : p v with
    | false =>
      simp only [Bool.false_eq_true, if_false]
      refine ⟨n + 1 - (vs.length + 1), by omega, h₃, tk₃, _, ys, vs ++ [v], rfl, by rw [hln]; exact hst₃, hacc₃, F₃, hP', ?_, by rw [hln]; exact hlt, by rw [hln]⟩
      rw [List.filter_append]; simpa [hpv] using hF
    | true =>
      simp only [if_true]
      refine wpAny_mono (helt vs.length v _ _ hPv hpv F₃ (by simp)) (fun y s₄ h₄ => ?_) fun _ _ e => e.elim
      obtain ⟨hFy, ⟨h₄, tk₄, rfl, F₄, hk₄⟩⟩ := h₄
      have hys : ys.size ≤ sizeLine := by
        have e1 := hF.length
        have e2 : (vs.filter p).length ≤ vs.length := List.length_filter_le _ _
        have e4 : ys.toList.length = ys.size := by simp
        omega
      refine wpAny_list_append_plain (hsz := hys) (hacc₃.at fun o e => hk₄ _ o hDC e) fun h₅ hl₅ hs₅ => ?_
      replace hs₅ : Heap.SameBut D h₄ h₅ := hs₅
      have F₅ : Fr g cenv.locals h₅ _ := ⟨F₄.ns.sameBut hs₅ (Ne.symm hDC), fun b o e => hs₅.extBut b o (gD b (by rw [e]; nofun)) (F₄.keep b o e), F₄.above⟩
      refine ⟨n + 1 - (vs.length + 1), by omega, h₅, tk₄, _, ys.push y, vs ++ [v], rfl, ?_, hl₅, F₅, hP', ?_, by rw [hln]; exact hlt, by rw [hln]⟩
      · rw [hln]
        exact W.frame _ _ h₅ hst₃ fun b hb o e => hs₅.extBut b o (fun h => hDf (h ▸ hb)) (hk₄ b o (fun h => hCf (h ▸ hb)) e)
      · rw [List.filter_append]; simpa [hpv] using Paired.snoc hF hFy
  · have hin : vs.length = n := by omega
    refine W.done _ _ _ (hin ▸ hst') fun h₁ tk₁ hk₁ => ?_
    have F₁ : Fr g cenv.locals h₁ m' := ⟨F'.ns.at' fun o e => hk₁ _ o hCw e, fun b o e => hk₁ b o (gw b (by rw [e]; nofun)) (F'.keep b o e), F'.above⟩
    exact hR h₁ tk₁ m' ys vs F₁ (hacc'.at fun o e => hk₁ _ o hDw e) hin hP hF
end

section
variable {prog : Program} {w : World} {A : Around} {E : Value → Shared → Prop} {env : Env}
/-- x = [elt for x in iter if ifs], for any names that the block closes over -/
theorem Assign_comp {s : Shared} {elt iter : Expr} {x y : Str} {px py : Pos} {ifs : List Expr} {scope : Scope} {cl : List (Str × Addr)} {pos spos : Pos} {Q : Flow → Shared → Prop}
    (p : Value → Bool) (Fv : Value → Value → Prop)
    (hsw : swapsWith (.ListComp elt [⟨.Name x px, iter, ifs, 0⟩] scope pos) (some (.Name y py)) spos.line env = pure true)
    (hclos : closureFor scope env = pure cl) (hcell : ∀ z ∈ scope.names, z.2 ≠ .cell) (hkind : scope.kind = .function)
    (hnames : ∀ z ∈ scope.names, z.2 = .local → scope.names.lookup z.1 = some .local) (hx : scope.names.lookup x = some .local)
    (hy : env.kindOf y = some .local) (hp : (env.scope.kind == .class || (env.scope.kind == .module && env.locals != env.globals)) = false)
    (h : wpAny (model prog w) A (eval iter env) (fun xv s₁ => wpAny (model prog w) A (pyIter xv) (fun it s₂ => ∃ I fp wr n P St m, it = .ref I ∧ Walks prog w A I fp wr n P St ∧ n ≤ sizeLine ∧ St 0 s₂.heap ∧ (∀ b ∈ fp, b < s₂.heap.objs.size) ∧
      env.locals ∉ wr ∧ s₂.heap.Ns env.locals m ∧
      (∀ C, s₂.heap.objs.size ≤ C → ∀ i v s₃ m₃, P i v → Fr (hideAll s₂.heap wr) C s₃.heap m₃ → m₃ x = some v →
        wpAny (model prog w) A (forIn ifs true fun c r => if r = true then do let ok ← isTrue c (compEnvC scope cl C env) (eval c (compEnvC scope cl C env)); pure (ForInStep.yield ok) else pure (ForInStep.yield r))
          (fun ok s₄ => ok = p v ∧ Quiet (hideAll s₂.heap wr) C m₃ s₃ s₄) (fun _ _ => False) s₃) ∧
      (∀ C, s₂.heap.objs.size ≤ C → ∀ i v s₃ m₃, P i v → p v = true → Fr (hideAll s₂.heap wr) C s₃.heap m₃ → m₃ x = some v →
        wpAny (model prog w) A (eval elt (compEnvC scope cl C env)) (fun y s₄ => Fv v y ∧ Quiet (hideAll s₂.heap wr) C m₃ s₃ s₄) (fun _ _ => False) s₃) ∧
      (∀ D h' tk ys (vs : List Value), s₂.heap.objs.size ≤ D → s₂.heap.get? D = none → h'.PlainList D ys → vs.length = n → (∀ j v, vs[j]? = some v → P j v) → Paired Fv (vs.filter p) ys.toList →
        h'.Ns env.locals (fun z => if z = y then some (.ref D) else m z) → (∀ b o, b ≠ env.locals → b ∉ wr → s₂.heap.get? b = some o → h'.get? b = some o) → Q .next { s₂ with heap := h', toks := tk })) E s₁) E s)
    (hs : ∀ x, foldedSetIterable iter env x = pure x := by intro _; rfl) :
    wpAny (model prog w) A (exec (.Assign [.Name y py] (.ListComp elt [⟨.Name x px, iter, ifs, 0⟩] scope pos) spos) env) Q E s := by
  rw [exec_Assign_Name_used _ _ _ _ hsw]
  refine wpAny_bind (wpAny_standAt (wpAny_bind ?_))
  show wpAny _ A (do let _ ← comprehension (.ListComp elt [⟨.Name x px, iter, ifs, 0⟩] scope pos) scope env _ (newList []) false (eval iter env) (some (assign (.Name y py) env))) _ _ s
  refine wpAny_bind (wpAny_mono (wpAny_comprehension_free (use := some (assign (.Name y py) env)) (Q := fun _ s' => Q .next s') rfl hs hclos hkind hnames
    (wpAny_mono h (fun xv s₁ h₁ => wpAny_mono h₁ (fun it s₂ h₂ => ?_) fun _ _ e => e) fun _ _ e => e)) (fun _ s' hq => wpAny_pure (wpAny_pure hq)) fun _ _ e => e)
  obtain ⟨I, fp, wr, n, P, St, m, rfl, W, hsz, hst, hfp, hLf, hn, ht, he, hQ⟩ := h₂
  refine wpAny_newObj_type (wpAny_newFunctionEnv hcell (by intro y hy; simp at hy) (fun h₁ hns₁ hsb₁ => ?_) hkind)
  dsimp only at hns₁ hsb₁ ⊢
  generalize hH2 : s₂.heap.push { cls := .type "list", dict := none, data := .seq ([] : List Value).toArray } = H2 at hns₁ hsb₁ ⊢
  have hC : H2.objs.size = s₂.heap.objs.size + 1 := by rw [← hH2, Heap.size_push]
  have hDC : s₂.heap.objs.size ≠ H2.objs.size := by rw [hC]; exact Nat.ne_of_lt (Nat.lt_succ_self _)
  have hCle : s₂.heap.objs.size ≤ H2.objs.size := by rw [hC]; exact Nat.le_succ _
  have below : ∀ b, b < s₂.heap.objs.size → b ≠ H2.objs.size ∧ b ≠ s₂.heap.objs.size := fun b hb => ⟨by rw [hC]; exact Nat.ne_of_lt (Nat.lt_succ_of_lt hb), Nat.ne_of_lt hb⟩
  have hDf : s₂.heap.objs.size ∉ fp := fun hm => Nat.lt_irrefl _ (hfp _ hm)
  have hCf : H2.objs.size ∉ fp := fun hm => by have := hfp _ hm; rw [hC] at this; exact Nat.lt_irrefl _ (Nat.lt_of_succ_lt this)
  have old : ∀ b o, s₂.heap.get? b = some o → h₁.get? b = some o := fun b o e => hsb₁.extBut b o (below b (Heap.lt_size e)).1 (Heap.get?_push_of_some _ (hH2 ▸ Heap.get?_push_of_some _ e))
  have hacc : h₁.PlainList s₂.heap.objs.size #[] := ⟨_, hsb₁.extBut _ _ hDC (Heap.get?_push_of_some _ (hH2 ▸ Heap.get?_push_size _ rfl))⟩
  have hst₁ : St 0 h₁ := W.frame _ _ _ hst fun b _ o e => old b o e
  have fresh : ∀ a, s₂.heap.objs.size ≤ a → s₂.heap.get? a = none := fun a ha => by
    cases e : s₂.heap.get? a with
    | none => rfl
    | some o' => exact absurd (Heap.lt_size e) (Nat.not_lt.mpr ha)
  have fresh2 : ∀ a, s₂.heap.objs.size ≤ a → (hideAll s₂.heap wr).get? a = none := fun a ha => by
    cases e : (hideAll s₂.heap wr).get? a with
    | none => rfl
    | some o' => have := of_hideAll _ e; rw [fresh a ha] at this; cases this
  have F₁ : Fr (hideAll s₂.heap wr) H2.objs.size h₁ _ := ⟨hns₁, fun b o e => old b o (of_hideAll _ e), by rw [hideAll_size]; exact hCle⟩
  have loop : ∀ s₃ : Shared, s₃ = { s₂ with heap := h₁, toks := s₂.toks + ([] : List (Str × Value)).length } →
      codeAny (model prog w) A (.compLoop (.ListComp elt [⟨.Name x px, iter, ifs, 0⟩] scope pos) 0 (.ref I) (.ref s₂.heap.objs.size) (compEnvC scope cl H2.objs.size env))
        (compPost (model prog w) A E (some (assign (.Name y py) env)) (fun _ s' => Q .next s') (.ref s₂.heap.objs.size) H2.objs.size) s₃ := by
    rintro s₃ rfl
    refine comp_loop (hsz := hsz) (cenv := compEnvC scope cl H2.objs.size env) (g := hideAll s₂.heap wr) W p Fv (lookup_relabel_local hx) (by simp [compEnvC, relabel, hkind]) hDC hDf hCf (fresh2 _ (Nat.le_refl _)) (fun b hb => hideAll_none _ hb) hst₁ hacc F₁
      (fun i v s₃ m₃ hv hF hm => ht _ hCle i v s₃ m₃ hv hF hm) (fun i v s₃ m₃ hv hpv hF hm => he _ hCle i v s₃ m₃ hv hpv hF hm) fun h' tk m' ys vs hF hpl hlen hP hFv => ?_
    have hk : ∀ b o, b ∉ wr → s₂.heap.get? b = some o → h'.get? b = some o := fun b o hb e => hF.keep b o (hideAll_get _ e hb)
    have hLs : env.locals < s₂.heap.objs.size := hn.lt
    have hLC : env.locals ≠ H2.objs.size := (below _ hLs).1
    have hLD : env.locals ≠ s₂.heap.objs.size := (below _ hLs).2
    show wpAny _ A (assign (.Name y py) env (.ref s₂.heap.objs.size)) _ _ _
    refine wpAny_assign_Name (wpAny_storeName_local hy (hn.at' fun o e => hk _ o hLf e) (fun h₂ hn₂ hs₂ => ?_) hp)
    replace hs₂ : Heap.SameBut env.locals h' h₂ := hs₂
    refine ⟨m', hF.ns.sameBut hs₂ (Ne.symm hLC), fun h₃ hs₃ => ?_⟩
    replace hs₃ : Heap.SameBut H2.objs.size h₂ h₃ := hs₃
    exact hQ s₂.heap.objs.size h₃ _ ys vs (Nat.le_refl _) (fresh _ (Nat.le_refl _)) ((hpl.extBut hs₂.extBut (Ne.symm hLD)).extBut hs₃.extBut hDC) hlen hP hFv (hn₂.sameBut hs₃ hLC) fun b o hbL hbf e =>
      hs₃.extBut b o (below b (Heap.lt_size e)).1 (hs₂.extBut b o hbL (hk b o hbf e))
  exact codeAny_compStart_list (loop _ rfl) (W.self 0 _ _ _ hst₁ (loop _ rfl))
end
end Mine

end
section
open PySem PySem.W PyProof.Rows PySem.Calls PySem.Spec
namespace Mine
def cnt (c : Str) (ts : List Str) : Int := Spec.countIn (.str c) (ts.map PyData.str)
theorem cnt_count (c : Str) : ∀ ts : List Str, cnt c ts = (ts.countP (· == c) : Nat)
  | [] => rfl
  | t :: r => by
    have ih := cnt_count c r
    unfold cnt at ih ⊢
    rw [List.map_cons, Spec.countIn, ih, List.countP_cons]
    have e : Spec.same (PyData.str t) (PyData.str c) = (t == c) := rfl
    rw [e]
    by_cases h : (t == c) = true
    · rw [if_pos h, if_pos h]; omega
    · rw [if_neg h, if_neg h]; omega
/-- are as many brackets opened as closed from place k to place m -/
def balAt (ts : List Str) (k m : Nat) : Bool := cnt sO ((ts.drop k).take (m + 1 - k)) == cnt sC ((ts.drop k).take (m + 1 - k))
def endOf (ts : List Str) (k : Nat) : Option Nat := ((List.range (ts.length - k)).map (k + ·)).find? (balAt ts k)
def rowOf (ts : List Str) (k e : Nat) : List Str := ts.take k ++ (ts.drop (k + 1)).take (e - (k + 1)) ++ ts.drop (e + 1)
def sparedFrom (ts : List Str) : List Nat → Option (List (List Str))
  | [] => some []
  | k :: r => if ts[k]? = some sO then
      match endOf ts k, sparedFrom ts r with
      | some e, some rows => some (rowOf ts k e :: rows)
      | _, _ => none
    else sparedFrom ts r
def sparedO (ts : List Str) : Option (List (List Str)) := sparedFrom ts (List.range ts.length)

/-- a list of lists of texts -/
inductive RowsAre (S : Addr → Prop) (h : Heap) : List Value → List (List Str) → Prop
  | nil : RowsAre S h [] []
  | cons {a : Addr} {xs : List Value} {n : Nat} {ts : List Str} {vs : List Value} {rows : List (List Str)} : S a → LAt h a xs n → StrsAre xs ts → RowsAre S h vs rows → RowsAre S h (.ref a :: vs) (ts :: rows)
theorem RowsAre.length {S : Addr → Prop} {h : Heap} {vs : List Value} {rows : List (List Str)} (x : RowsAre S h vs rows) : vs.length = rows.length := by
  induction x with
  | nil => rfl
  | cons _ _ _ _ ih => rw [List.length_cons, List.length_cons, ih]
theorem RowsAre.keeps {S : Addr → Prop} {h h' : Heap} (st : ∀ b o, S b → h.get? b = some o → h'.get? b = some o) {vs : List Value} {rows : List (List Str)} (x : RowsAre S h vs rows) : RowsAre S h' vs rows := by
  induction x with
  | nil => exact .nil
  | cons a b c _ ih => exact .cons a (st _ _ a b) c ih
theorem RowsAre.mono {S S' : Addr → Prop} {h : Heap} (hl : ∀ b, S b → h.get? b ≠ none → S' b) {vs : List Value} {rows : List (List Str)} (x : RowsAre S h vs rows) : RowsAre S' h vs rows := by
  induction x with
  | nil => exact .nil
  | cons a b c _ ih => exact .cons (hl _ a (by rw [show h.get? _ = _ from b]; nofun)) b c ih
theorem RowsAre.snoc {S : Addr → Prop} {h : Heap} {vs : List Value} {rows : List (List Str)} {a : Addr} {xs : List Value} {n : Nat} {ts : List Str} (x : RowsAre S h vs rows) (h1 : S a) (h2 : LAt h a xs n) (h3 : StrsAre xs ts) : RowsAre S h (vs ++ [.ref a]) (rows ++ [ts]) := by
  induction x with
  | nil => exact .cons h1 h2 h3 .nil
  | cons a b c _ ih => exact .cons a b c ih
theorem RowsAre.get {S : Addr → Prop} {h : Heap} {vs : List Value} {rows : List (List Str)} (x : RowsAre S h vs rows) : ∀ (i : Nat) (v : Value), vs[i]? = some v → ∃ a xs n ts, v = .ref a ∧ rows[i]? = some ts ∧ S a ∧ LAt h a xs n ∧ StrsAre xs ts := by
  induction x with
  | nil => intro i v e; cases e
  | cons a b c _ ih => intro i v e; cases i with
    | zero => cases e; exact ⟨_, _, _, _, rfl, rfl, a, b, c⟩
    | succ i => exact ih i v e
structure RowsIs (lo : Nat) (rows : List (List Str)) (v : Value) (s : Shared) : Prop where
  ex : ∃ l vs n, v = .ref l ∧ lo ≤ l ∧ LAt s.heap l vs n ∧ RowsAre (fun b => From lo b ∧ b ≠ l) s.heap vs rows

theorem pick_to (l : List Value) {b : Nat} (hb : b ≤ l.length) : kms_pick l none (some (b : Int)) = l.take b := by
  unfold kms_pick kms_lo kms_hi
  dsimp only
  rw [if_neg (by omega), List.drop_zero, Nat.sub_zero, Int.toNat_natCast, Nat.min_eq_left hb]
theorem pick_from (l : List Value) {a : Nat} : kms_pick l (some (a : Int)) none = l.drop a := by
  unfold kms_pick kms_lo kms_hi
  dsimp only
  rw [if_neg (by omega), Int.toNat_natCast]
  by_cases h : a ≤ l.length
  · rw [Nat.min_eq_left h, List.take_of_length_le (by rw [List.length_drop]; exact Nat.le_refl _)]
  · rw [Nat.min_eq_right (by omega), List.drop_eq_nil_of_le (Nat.le_refl _), List.drop_eq_nil_of_le (by omega), List.take_nil]
theorem pick_run (l : List Value) {a b : Nat} (ha : a ≤ l.length) (hb : b ≤ l.length) : kms_pick l (some (a : Int)) (some (b : Int)) = (l.drop a).take (b - a) := by
  unfold kms_pick kms_lo kms_hi
  dsimp only
  rw [if_neg (by omega), if_neg (by omega), Int.toNat_natCast, Int.toNat_natCast, Nat.min_eq_left ha, Nat.min_eq_left hb]

section
variable {prog : Program} {w : World} {A : Around} {E : Value → Shared → Prop} {s : Shared} {h₀ : Heap} {L : Addr} {m : Str → Option Value} {news news' : List (Addr × Obj)} {value slice : Expr}
theorem len_LG {l : Addr} {xs : List Value} {n : Nat} {Q : Value → Shared → Prop} (hl : LAt s.heap l xs n) (hfit : xs.length < 2 ^ 62) (h : ∀ t k, Q (.int (xs.length : Int) t) { s with toks := k }) :
    wpAny (model prog w) A (call (.builtin "len") [.ref l]) Q E s := by
  refine len_list hl.isList (by rw [List.size_toArray]; omega) ?_
  rw [List.size_toArray]; exact h _ _
theorem item_LG {l : Addr} {xs : List Value} {y : Value} {n i : Nat} {u : Tok} {Q : Value → Shared → Prop} (hl : LAt s.heap l xs n) (hi : xs[i]? = some y) (hfit : i < 2 ^ 62) (h : Q y s)
    (hs : subscripted slice false (.ref l) (.int i u) = operate [.ref l, .int i u] (getItem (.ref l) (.int i u)) := by with_unfolding_all rfl) (hg : ∀ r, letTemporaryGo value (.ref l) r = pure () := by intro _; with_unfolding_all rfl) :
    wpAny (model prog w) A (subscriptTail value slice (.ref l) (.int (i : Int) u)) Q E s :=
  item_listL hl.isList (by omega) (by omega) (by simpa using hi) h hs hg
theorem count_LG {l : Addr} {xs : List Value} {ys : List Str} {n : Nat} {k : Str} {t : Tok} {Q : Value → Shared → Prop} (hl : LAt s.heap l xs n) (hi : StrsAre xs ys) (h : ∀ t' tk, Q (.int (cnt k ys) t') { s with toks := tk }) :
    wpAny (model prog w) A (call (.builtin "list.count") [.ref l, .str k t]) Q E s := count_list_strs hl.isList hi (h _ _)
theorem nameC_g {M : Model} {C : Addr} {g : Heap} {scope : Scope} {cl : List (Str × Addr)} {env : Env} {x : Str} {pos : Pos} {v : Value} {c : Addr} {o : Obj} {Q : Value → Shared → Prop} (F : Fr g C s.heap m) (hc : cl.lookup x = some c) (hg : g.get? c = some o) (hd : o.data = .cell (some v)) (h : Q v s)
    (hk : (compEnvC scope cl C env).scope.kind = .function) (hx : (compEnvC scope cl C env).kindOf x = some .cell) (hb : (x == ("__debug__" : Str)) = false := by decide) :
    wpAny M A (eval (.Name x pos) (compEnvC scope cl C env)) Q E s := wpAny_Name (wpAny_loadName_cell hk hx hc ⟨o, F.keep _ _ hg, hd⟩ h) hb
end

/-- a loop whose name lies in a cell -/
theorem walk_loopC {c : P0} {A : Around} {IT : Addr} {fp wr : List Addr} {n : Nat} {Pv : Nat → Value → Prop} {St : Nat → Heap → Prop} (W : Walks PySem.Challenge.rw_ph0043_01.prog c.w A IT fp wr n Pv St)
    {env : Env} {xv : Str} {px : Pos} {body : List Stmt} {R : Result → Shared → Prop} {g h₀ : Heap} {L cK : Addr} {s : Shared} {m : Str → Option Value}
    (Z : Fn c h₀ g L) (hk : env.scope.kind = .function) (hxv : env.kindOf xv = some .cell) (hcK : env.cells.lookup xv = some cK) (hcL : L < cK)
    (hwr : ∀ b ∈ wr, L < b) (hcw : ∀ i h, St i h → ∀ b ∈ wr, ∀ o, h.get? b = some o → ¬ CodeLike o) (hLf : L ∉ fp) (hcf : cK ∉ fp)
    (J : Nat → (Str → Option Value) → Shared → Prop)
    (hJ : ∀ i m' s' h' tk, J i m' s' → (∀ b o, b ∉ wr → b ≠ cK → s'.heap.get? b = some o → h'.get? b = some o) → (∃ v₀, h'.IsCell cK v₀) → J i m' { s' with heap := h', toks := tk })
    (hcell : ∀ i m' s', J i m' s' → ∃ v₀, s'.heap.IsCell cK v₀)
    (F : Fr g L s.heap m) (I : Inv c s.heap) (hst : St 0 s.heap) (h0 : J 0 m s)
    (step : ∀ i v m₁ s₁, i < n → Pv i v → J i m₁ s₁ → Inv c s₁.heap → St (i + 1) s₁.heap → Fr g L s₁.heap m₁ → s₁.heap.IsCell cK (some v) →
      wpAny (MM c) A (execs body env) (fun f s₂ => match f with
        | .next | .cont => TurnW c g L St J (i + 1) s₂
        | .brk => R (.ok .next) s₂
        | .ret v => R (.ok (.ret v)) s₂) (fun _ _ => False) s₁)
    (hR : ∀ s' m', Inv c s'.heap → Fr g L s'.heap m' → J n m' s' → R (.ok .next) s') :
    codeAny (MM c) A (.forLoop (.Name xv px) (.ref IT) body [] env) R s := by
  have hLw : L ∉ wr := fun h => hLf (W.sub _ h)
  have hcw' : cK ∉ wr := fun h => hcf (W.sub _ h)
  have fresh : ∀ {h' m'}, Fr g L h' m' → ∀ b o, g.get? b = some o → b ∉ wr ∧ b ≠ cK := fun F' b o e =>
    ⟨fun hb => absurd (Heap.lt_size e) (Nat.not_lt.mpr (Nat.le_trans F'.above (Nat.le_of_lt (hwr b hb)))), fun hb => absurd (Heap.lt_size e) (Nat.not_lt.mpr (Nat.le_trans F'.above (Nat.le_of_lt (hb ▸ hcL))))⟩
  have keepF : ∀ {h' h₁ m'}, Fr g L h' m' → (∀ b o, b ∉ wr → h'.get? b = some o → h₁.get? b = some o) → Fr g L h₁ m' := fun F' k =>
    ⟨F'.ns.at fun o e => k _ o hLw e, fun b o e => k b o (fresh F' b o e).1 (F'.keep b o e), F'.above⟩
  have keepI : ∀ {i h' h₁ m'}, Fr g L h' m' → St i h' → Inv c h' → (∀ b o, b ∉ wr → h'.get? b = some o → h₁.get? b = some o) → Inv c h₁ := fun F' st I' k =>
    I'.but (fun b => b ∈ wr) (fun b o e hb => k b o hb e) (fun b hb => Nat.le_trans Z.tl (Nat.le_of_lt (hwr b hb))) (fun b o hb e hc => hcw _ _ st b hb o e hc) (Nat.le_trans Z.tl (Nat.le_of_lt (keepF F' k).ns.lt))
  refine codeAny_forLoop_any (fun k s' => ∃ m' i, Fr g L s'.heap m' ∧ Inv c s'.heap ∧ St i s'.heap ∧ J i m' s' ∧ i ≤ n ∧ k = n + 1 - i) ?_ (n + 1) ⟨m, 0, F, I, hst, h0, Nat.zero_le _, rfl⟩
  rintro k s' ⟨m', i, F', I', st', hj, hi, rfl⟩
  by_cases hlt : i < n
  · refine W.item i _ _ _ hlt st' fun v h₁ tk₁ hP hst₁ hk₁ => ?_
    refine wpAny_pure ?_
    have F₁ := keepF F' hk₁
    have I₁ := keepI F' st' I' hk₁
    obtain ⟨v₀, oc, hoc, hdc⟩ := hcell _ _ _ hj
    refine wpAny_assign_Name (wpAny_storeName_cell hk hxv hcK ⟨oc, hk₁ _ _ hcw' hoc, hdc⟩ (fun h₂ hv₂ hs₂ => ?_))
    replace hs₂ : Heap.SameBut cK h₁ h₂ := hs₂
    have F₂ : Fr g L h₂ m' := ⟨F₁.ns.sameBut hs₂ (Nat.ne_of_lt hcL), fun b o e => hs₂.extBut b o (fresh F' b o e).2 (F₁.keep b o e), F₁.above⟩
    have I₂ : Inv c h₂ := by
      refine I₁.but (fun b => b = cK) (fun b o e hb => hs₂.extBut b o hb e) (fun b hb => by rw [hb]; exact Nat.le_trans Z.tl (Nat.le_of_lt hcL)) (fun b o hb e hc => ?_) (Nat.le_trans Z.tl (Nat.le_of_lt F₂.ns.lt))
      rw [hb, hk₁ _ _ hcw' hoc] at e; cases e
      exact not_code_cell hdc hc
    have st₂ : St (i + 1) h₂ := W.frame _ _ _ hst₁ fun b hb o e => hs₂.extBut b o (fun z => hcf (z ▸ hb)) e
    have hj₂ := hJ i m' s' h₂ tk₁ hj (fun b o hb hb2 e => hs₂.extBut b o hb2 (hk₁ b o hb e)) ⟨_, hv₂⟩
    refine wpAny_mono (step i v m' { s' with heap := h₂, toks := tk₁ } hlt hP hj₂ I₂ st₂ F₂ hv₂) (fun f s₃ h₃ => ?_) fun _ _ x => x.elim
    have again : TurnW c g L St J (i + 1) s₃ → ∃ k, k < n + 1 - i ∧ ∃ m' i, Fr g L s₃.heap m' ∧ Inv c s₃.heap ∧ St i s₃.heap ∧ J i m' s₃ ∧ i ≤ n ∧ k = n + 1 - i := by
      rintro ⟨⟨m₂, F₃, hj₃⟩, I₃, st₃⟩
      exact ⟨n + 1 - (i + 1), by omega, m₂, i + 1, F₃, I₃, st₃, hj₃, hlt, rfl⟩
    cases f with
    | next => exact again h₃
    | cont => exact again h₃
    | brk => exact h₃
    | ret v => exact h₃
  · have hin : i = n := by omega
    subst hin
    refine W.done _ _ _ st' fun h₁ tk₁ hk₁ => wpAny_execs_nil ?_
    obtain ⟨v₀, oc, hoc, hdc⟩ := hcell _ _ _ hj
    exact hR _ m' (keepI F' st' I' hk₁) (keepF F' hk₁) (hJ _ _ _ _ _ hj (fun b o hb _ e => hk₁ b o hb e) ⟨v₀, oc, hk₁ _ _ hcw' hoc, hdc⟩)

structure CompAt (prog : Program) (w : World) (A : Around) (env : Env) (elt iter : Expr) (x y : Str) (ifs : List Expr) (scope : Scope) (cl : List (Str × Addr)) (p : Value → Bool) (Fv : Value → Value → Prop) (Q : Flow → Shared → Prop) (it : Value) (s₂ : Shared) : Prop where
  ex : ∃ I fp wr n P St m, it = .ref I ∧ Walks prog w A I fp wr n P St ∧ n ≤ sizeLine ∧ St 0 s₂.heap ∧ (∀ b ∈ fp, b < s₂.heap.objs.size) ∧
      env.locals ∉ wr ∧ s₂.heap.Ns env.locals m ∧
      (∀ C, s₂.heap.objs.size ≤ C → ∀ i v s₃ m₃, P i v → Fr (hideAll s₂.heap wr) C s₃.heap m₃ → m₃ x = some v →
        wpAny (model prog w) A (forIn ifs true fun c r => if r = true then do let ok ← isTrue c (compEnvC scope cl C env) (eval c (compEnvC scope cl C env)); pure (ForInStep.yield ok) else pure (ForInStep.yield r))
          (fun ok s₄ => ok = p v ∧ Quiet (hideAll s₂.heap wr) C m₃ s₃ s₄) (fun _ _ => False) s₃) ∧
      (∀ C, s₂.heap.objs.size ≤ C → ∀ i v s₃ m₃, P i v → p v = true → Fr (hideAll s₂.heap wr) C s₃.heap m₃ → m₃ x = some v →
        wpAny (model prog w) A (eval elt (compEnvC scope cl C env)) (fun y s₄ => Fv v y ∧ Quiet (hideAll s₂.heap wr) C m₃ s₃ s₄) (fun _ _ => False) s₃) ∧
      (∀ D h' tk ys (vs : List Value), s₂.heap.objs.size ≤ D → s₂.heap.get? D = none → h'.PlainList D ys → vs.length = n → (∀ j v, vs[j]? = some v → P j v) → Paired Fv (vs.filter p) ys.toList →
        h'.Ns env.locals (fun z => if z = y then some (.ref D) else m z) → (∀ b o, b ≠ env.locals → b ∉ wr → s₂.heap.get? b = some o → h'.get? b = some o) → Q .next { s₂ with heap := h', toks := tk })
structure PSel (p : Value → Bool) (Fv : Value → Value → Prop) : Prop where
  ok : True
theorem Assign_compS {prog : Program} {w : World} {A : Around} {E : Value → Shared → Prop} {env : Env} {s : Shared} {elt iter : Expr} {x y : Str} {px py : Pos} {ifs : List Expr} {scope : Scope} {cl : List (Str × Addr)} {pos spos : Pos} {Q : Flow → Shared → Prop}
    {p : Value → Bool} {Fv : Value → Value → Prop} (sel9 : PSel p Fv)
    (hsw : swapsWith (.ListComp elt [⟨.Name x px, iter, ifs, 0⟩] scope pos) (some (.Name y py)) spos.line env = pure true)
    (hclos : closureFor scope env = pure cl) (hcell : ∀ z ∈ scope.names, z.2 ≠ .cell) (hkind : scope.kind = .function)
    (hnames : ∀ z ∈ scope.names, z.2 = .local → scope.names.lookup z.1 = some .local) (hx : scope.names.lookup x = some .local)
    (hy : env.kindOf y = some .local) (hp : (env.scope.kind == .class || (env.scope.kind == .module && env.locals != env.globals)) = false)
    (hs : ∀ x, foldedSetIterable iter env x = pure x)
    (h : wpAny (model prog w) A (eval iter env) (fun xv s₁ => wpAny (model prog w) A (pyIter xv) (fun it s₂ => CompAt prog w A env elt iter x y ifs scope cl p Fv Q it s₂) E s₁) E s) :
    wpAny (model prog w) A (exec (.Assign [.Name y py] (.ListComp elt [⟨.Name x px, iter, ifs, 0⟩] scope pos) spos) env) Q E s :=
  Assign_comp p Fv hsw hclos hcell hkind hnames hx hy hp (wpAny_mono h (fun _ _ h => wpAny_mono h (fun _ _ h => h.ex) fun _ _ e => e) fun _ _ e => e) hs

/-- the places to the left of a text of tokens are numbers -/
def compP (ts : List Str) (k : Nat) (v : Value) : Bool := match v with
  | .int j _ => balAt ts k j.toNat
  | _ => false
def natOf : Value → Nat
  | .int j _ => j.toNat
  | _ => 0
theorem paired_eq {vs ys : List Value} (h : Paired (fun v y => y = v) vs ys) : ys = vs := by
  induction h with
  | nil => rfl
  | cons e _ ih => rw [ih, e]
theorem find_congr {α : Type} {p q : α → Bool} : ∀ (l : List α), (∀ x ∈ l, p x = q x) → l.find? p = l.find? q
  | [], _ => rfl
  | a :: r, h => by
    rw [List.find?_cons, List.find?_cons, h a (List.mem_cons_self ..), find_congr r fun x hx => h x (List.mem_cons_of_mem _ hx)]
theorem comp_first {ts : List Str} {k e : Nat} {vs : List Value} (he : endOf ts k = some e) (hlen : vs.length = ts.length - k) (hP : ∀ (j : Nat) (v : Value), vs[j]? = some v → ∃ t, v = Value.int ((k : Int) + j * 1) t) :
    ∃ t rest, vs.filter (compP ts k) = Value.int (e : Int) t :: rest ∧ k ≤ e ∧ e < ts.length := by
  have hm : vs.map natOf = (List.range (ts.length - k)).map (k + ·) := by
    apply List.ext_getElem?
    intro j
    rw [List.getElem?_map, List.getElem?_map]
    cases h : vs[j]? with
    | none =>
      have : (List.range (ts.length - k))[j]? = none := by
        rw [List.getElem?_eq_none_iff, List.length_range, ← hlen]; exact List.getElem?_eq_none_iff.mp h
      rw [this]; rfl
    | some v =>
      obtain ⟨t, rfl⟩ := hP j v h
      have hj : j < ts.length - k := by rw [← hlen]; exact (List.getElem?_eq_some_iff.mp h).1
      have : (List.range (ts.length - k))[j]? = some j := by rw [List.getElem?_range hj]
      rw [this]
      simp only [Option.map_some, natOf]
      congr 1; omega
  have hp : ∀ v ∈ vs, compP ts k v = balAt ts k (natOf v) := by
    intro v hv
    obtain ⟨j, hj⟩ := List.getElem?_of_mem hv
    obtain ⟨t, rfl⟩ := hP j v hj
    rfl
  unfold endOf at he
  rw [← hm] at he
  rw [List.find?_map, Option.map_eq_some_iff] at he
  obtain ⟨v, hv, rfl⟩ := he
  have hmem := List.mem_of_find?_eq_some hv
  obtain ⟨j, hj⟩ := List.getElem?_of_mem hmem
  obtain ⟨t, rfl⟩ := hP j v hj
  have hjl : j < ts.length - k := by rw [← hlen]; exact (List.getElem?_eq_some_iff.mp hj).1
  have hf : (vs.filter (compP ts k)).head? = some (.int ((k : Int) + j * 1) t) := by
    rw [List.head?_filter, ← hv]
    exact find_congr vs hp
  cases hfl : vs.filter (compP ts k) with
  | nil => rw [hfl] at hf; cases hf
  | cons a rest =>
    rw [hfl] at hf
    cases hf
    refine ⟨t, rest, ?_, ?_, ?_⟩
    · rw [show ((natOf (Value.int ((k : Int) + j * 1) t) : Nat) : Int) = (k : Int) + j * 1 by simp only [natOf]; omega]
    · simp only [natOf]; omega
    · simp only [natOf]; omega

abbrev Sr (L Rw I : Nat) : Addr → Prop := fun b => L + 2 < (b : Nat) ∧ (b : Nat) ≠ Rw ∧ (b : Nat) ≠ I
structure SJ (s : Shared) (L Rw I : Nat) (oT : Obj) (ts : List Str) (rows : List (List Str)) (i : Nat) (m' : Str → Option Value) (s' : Shared) : Prop where
  ex : ∃ nR rvs done rest, m' (Str.ofString "rows") = some (.ref Rw) ∧ LAt s'.heap Rw rvs nR ∧ RowsAre (Sr L Rw I) s'.heap rvs done ∧ sparedFrom ts ((List.range ts.length).drop i) = some rest ∧ rows = done ++ rest ∧ rvs.length ≤ i
  cT : s'.heap.get? (L + 1) = some oT
  cK : ∃ v₀, s'.heap.IsCell (L + 2) v₀
  gens : s'.gens = s.gens
  os : s'.os = s.os
theorem SJ.bears {s : Shared} {L Rw I : Nat} {oT : Obj} {ts : List Str} {rows : List (List Str)} {i : Nat} {m' : Str → Option Value} {s' : Shared} {h' : Heap} {tk : Nat} (j : SJ s L Rw I oT ts rows i m' s') (hRL : L + 2 < Rw) (hRI : Rw ≠ I) (hIL : L + 2 < I)
    (k : ∀ (b : Addr) o, (b : Nat) ≠ I → (b : Nat) ≠ L + 2 → s'.heap.get? b = some o → h'.get? b = some o) (kc : ∃ v₀, h'.IsCell (L + 2) v₀) : SJ s L Rw I oT ts rows i m' { s' with heap := h', toks := tk } := by
  obtain ⟨nR, rvs, done, rest, a1, a2, a3, a4, a5, a6⟩ := j.ex
  exact ⟨⟨nR, rvs, done, rest, a1, k _ _ hRI (Nat.ne_of_gt hRL) a2, a3.keeps fun b o hb e => k b o hb.2.2 (Nat.ne_of_gt hb.1) e, a4, a5, a6⟩, k _ _ (Nat.ne_of_lt (Nat.lt_of_succ_lt hIL)) (Nat.ne_of_lt (Nat.lt_succ_self _)) j.cT, kc, j.gens, j.os⟩
theorem drop_range {n i : Nat} (h : i < n) : (List.range n).drop i = i :: (List.range n).drop (i + 1) := by
  rw [List.drop_eq_getElem_cons (by rw [List.length_range]; exact h), List.getElem_range]

open Classical in
noncomputable def dump0 (g : Heap) (C : Addr) (h : Heap) : List (Addr × Obj) :=
  (List.range h.objs.size).filterMap fun a => if a = C ∨ g.get? a ≠ none then none else (h.get? a).map fun o => (a, o)
theorem mem_dump0 {g : Heap} {C : Addr} {h : Heap} {x : Addr × Obj} : x ∈ dump0 g C h ↔ h.get? x.1 = some x.2 ∧ x.1 ≠ C ∧ g.get? x.1 = none := by
  unfold dump0
  rw [List.mem_filterMap]
  constructor
  · rintro ⟨a, _, e⟩
    split at e
    · cases e
    · rename_i hn
      cases q : h.get? a with
      | none => rw [q] at e; cases e
      | some o =>
        rw [q] at e; cases e
        exact ⟨q, fun z => hn (.inl z), Classical.byContradiction fun z => hn (.inr z)⟩
  · rintro ⟨h1, h2, h3⟩
    refine ⟨x.1, List.mem_range.mpr (Heap.lt_size h1), ?_⟩
    rw [if_neg, h1]
    · rfl
    · rintro (z | z)
      · exact h2 z
      · exact z h3
structure Fz (g : Heap) (C : Addr) (h : Heap) (fz : List (Addr × Obj)) : Prop where
  kept : ∀ h'' m'' news, Fr g C h'' m'' → News g C h'' news → (∀ x ∈ fz, x ∈ news) → ∀ b o, b ≠ C → h.get? b = some o → h''.get? b = some o
theorem freeze0 {g : Heap} {C : Addr} {h : Heap} {m : Str → Option Value} (F : Fr g C h m) : ∃ fz, News g C h fz ∧ Fz g C h fz := by
  refine ⟨dump0 g C h, fun x hx => ?_, ⟨fun h'' m'' news F'' N'' hs b o hb e => ?_⟩⟩
  · have z := mem_dump0.mp hx
    exact ⟨z.1, z.2.1, z.2.2⟩
  · cases hg : g.get? b with
    | some o' =>
      have := F.keep b o' hg
      rw [e] at this; cases this
      exact F''.keep b o hg
    | none => exact (N'' (b, o) (hs _ (mem_dump0.mpr ⟨e, hb, hg⟩))).1
theorem Fz.quiet {g : Heap} {C : Addr} {s : Shared} {fz news : List (Addr × Obj)} {h'' : Heap} {tk : Nat} {m : Str → Option Value} (x : Fz g C s.heap fz) (F : Fr g C h'' m) (N : News g C h'' news) (hs : ∀ y ∈ fz, y ∈ news) : Quiet g C m s { s with heap := h'', toks := tk } :=
  ⟨h'', tk, rfl, F, fun b o hb e => x.kept h'' m news F N hs b o hb e⟩
def pickS (l : List Str) (lo hi : Option Int) : List Str := (l.drop (kms_lo lo l.length)).take (kms_hi hi l.length - kms_lo lo l.length)
theorem pick_strs {vs : List Value} {ts : List Str} (h : StrsAre vs ts) (lo hi : Option Int) : StrsAre (kms_pick vs lo hi) (pickS ts lo hi) := by
  unfold kms_pick pickS
  rw [h.length]
  exact (h.drop' _).take' _
theorem pickS_run (l : List Str) {a b : Nat} (ha : a ≤ l.length) (hb : b ≤ l.length) : pickS l (some (a : Int)) (some (b : Int)) = (l.drop a).take (b - a) := by
  unfold pickS kms_lo kms_hi
  dsimp only
  rw [if_neg (by omega), if_neg (by omega), Int.toNat_natCast, Int.toNat_natCast, Nat.min_eq_left ha, Nat.min_eq_left hb]
theorem bal_pick {ts : List Str} {i j : Nat} {t : Tok} (hi : i ≤ ts.length) (hj : i + j + 1 ≤ ts.length) :
    (cnt sO (pickS ts (some (i : Int)) (some ((i : Int) + (j : Int) * 1 + 1))) == cnt sC (pickS ts (some (i : Int)) (some ((i : Int) + (j : Int) * 1 + 1)))) = compP ts i (.int ((i : Int) + (j : Int) * 1) t) := by
  have e : (i : Int) + (j : Int) * 1 + 1 = ((i + j + 1 : Nat) : Int) := by omega
  have e2 : ((i : Int) + (j : Int) * 1).toNat = i + j := by omega
  rw [e, pickS_run ts hi hj]
  show _ = balAt ts i ((i : Int) + (j : Int) * 1).toNat
  rw [e2]; rfl
theorem row_strs {vs : List Value} {ts : List Str} (h : StrsAre vs ts) {i e : Nat} (hi : i + 1 ≤ ts.length) (he : e + 1 ≤ ts.length) :
    StrsAre (kms_pick vs none (some (i : Int)) ++ kms_pick vs (some ((i : Int) + 1)) (some (e : Int)) ++ kms_pick vs (some ((e : Int) + 1)) none) (rowOf ts i e) := by
  have hl := h.length
  rw [pick_to vs (by omega), show (i : Int) + 1 = ((i + 1 : Nat) : Int) by omega, show (e : Int) + 1 = ((e + 1 : Nat) : Int) by omega, pick_run vs (by omega) (by omega), pick_from]
  exact ((h.take' _).append' ((h.drop' _).take' _)).append' (h.drop' _)
theorem nameL_C {M : Model} {A : Around} {E : Value → Shared → Prop} {s : Shared} {C : Addr} {g : Heap} {m : Str → Option Value} {scope : Scope} {cl : List (Str × Addr)} {env : Env} {x : Str} {pos : Pos} {v : Value} {Q : Value → Shared → Prop} (F : Fr g C s.heap m) (hv : m x = some v) (h : Q v s)
    (hk : (compEnvC scope cl C env).scope.kind = .function) (hx : (compEnvC scope cl C env).kindOf x = some .local) (hb : (x == ("__debug__" : Str)) = false) :
    wpAny M A (eval (.Name x pos) (compEnvC scope cl C env)) Q E s := wpAny_Name (wpAny_loadName_local hk hx F.ns hv h) hb
theorem in_tail5 {x a1 a2 a3 a4 a5 a6 a7 a8 a9 a10 : Addr × Obj} {l : List (Addr × Obj)} (h : x ∈ l) : x ∈ a1 :: a2 :: a3 :: a4 :: a5 :: a6 :: a7 :: a8 :: a9 :: a10 :: l :=
  .tail _ (.tail _ (.tail _ (.tail _ (.tail _ (.tail _ (.tail _ (.tail _ (.tail _ (.tail _ h)))))))))
end Mine

end
section
open PySem PySem.W PyProof.Rows PySem.Calls PySem.Spec
namespace Mine
theorem fillS3 : ∀ (w : World) (h : Heap), (hd.heap_39 w.params).In h → model PySem.Challenge.rw_ph0043_01.prog w = model PySem.Challenge.rw_ph0043_01.prog w := by
  k_fill
  intro w h _; rfl
set_option maxRecDepth 100000 in
set_option maxHeartbeats 4000000 in
theorem spared_spec : ∀ (ts : List Str) (rows : List (List Str)), sparedO ts = some rows → ts.length ≤ 1000 → ∀ (c : P0) (A : Around) (s : Shared) (l : Addr) (vs : List Value) (n : Nat), l ≠ 44 → l ≠ 51 → LAt s.heap l vs n → StrsAre vs ts → Inv c s.heap → Rm A 3 →
    Calls c A (.ref 82) [.ref l] s (RowsIs s.heap.objs.size rows) := by
  k_with_none
  k_with "m_inv" => exact Pt.inv (by assumption) (by assumption) (by k_asm) (by k_asm) (by walk_at "m_fz") (by walk_at "m_tab") (by walk_at "m_tab")
  k_with "m_at" => first | exact (News.get (by k_asm) (by k_mem)) | exact Fr.keep (by k_asm) _ _ (by assumption)
  k_with "m_room" => (rw [PySem.sizeLine_eq]; (try simp only [List.length_append, List.length_cons, List.length_nil, List.length_reverse]); omega)
  k_with "assign Tuple" => (k_here; (with_reducible show wpAny _ _ (assign (Expr.Tuple _ _ _) _ (Value.ref _)) _ _ _); k_dflt (refine' unpackN_ ?zqF ?zqN ?zqT ?zqk1 ?zqk2 ?zqk3 ?_; (case zqF => k_asm); (case zqN => k_asm); (case zqT => (refine News.isTup (by k_asm) (by k_mem))); (case zqk1 => exact Rm.handled (by assumption)); (case zqk2 => exact rfl); (case zqk3 => exact rfl)); intro _ _ _)
  k_with "assign Tuple" => (k_here; (with_reducible show wpAny _ _ (assign (Expr.Tuple _ _ _) _ (Value.ref _)) _ _ _); k_dflt (refine' kun_list ?zqk1 ?zqk2 ?zqk3 ?zqk4 ?zqk5 ?zqk6 ?_; (case zqk1 => k_asm); (case zqk2 => k_asm); (case zqk3 => is_list); (case zqk4 => exact Rm.handled (by assumption)); (case zqk5 => exact rfl); (case zqk6 => exact rfl); k_whole); intro _ _ _)
  k_with "unpackItems ref" => (k_here; k_dflt (refine' unpackItemsN_ ?zqk1 ?zqk2 ?zqk3 ?zqk4 ?zqk5 ?_; (case zqk1 => k_asm); (case zqk2 => k_asm); (case zqk3 => kun_tup); (case zqk4 => exact Rm.handled (by assumption)); (case zqk5 => exact rfl); k_whole); intro _ _ _; (try k_sweep))
  k_with "newList" => (k_here; k_dflt (refine' newList_A ?zqk1 ?zqk2 ?_; (case zqk1 => k_asm); (case zqk2 => k_asm); k_whole); walk_at "m_t6")
  k_with "binaryOp Add ref ref" => (k_here; (with_reducible show wpAny _ _ (binaryOp _ (Value.ref _) (Value.ref _)) _ _ _); k_dflt (refine' add_LG ?zqk1 ?zqk2 ?zqk3 ?zqk4 ?_ ?zqk5; (case zqk1 => k_asm); (case zqk2 => k_asm); (case zqk3 => walk_at "m_at"); (case zqk4 => walk_at "m_at"); (case zqk5 => walk_at "m_room"); k_whole); walk_at "m_t6")
  k_with "subscriptTail Name UnaryOp ref int" => (k_here; k_dflt (refine' last_LG ?zqk1 ?_ ?zqk2 ?zqk3; (case zqk1 => walk_at "m_at"); (case zqk2 => with_unfolding_all rfl); (case zqk3 => intro _; with_unfolding_all rfl)))
  k_with "call builtin:str.index" => (k_here; refine index_rank (by assumption) ?_; intro _ _)
  k_with "subscriptTail Name Slice ref ref" => (k_here; k_dflt (refine' slice_LG ?zqF ?zqN ?zql ?zqp ?zqq ?_ ?zqz ?zqs ?zqt; (case zqF => k_asm); (case zqN => k_asm); (case zql => walk_at "m_at"); (case zqp => first | exact IsPart.none | exact IsPart.int _ _); (case zqq => first | exact IsPart.none | exact IsPart.int _ _); (case zqz => walk_at "m_room"); (case zqs => with_unfolding_all rfl); (case zqt => intro _; with_unfolding_all rfl)); walk_at "m_t6")
  k_with "subscriptTail Name Constant ref int" => (k_here; (with_reducible show wpAny _ _ (subscriptTail _ _ (Value.ref _) (Value.int 0 _)) _ _ _); k_dflt (refine' item0_LG ?zqk1 ?_ ?zqk2 ?zqk3; (case zqk1 => walk_at "m_at"); (case zqk2 => with_unfolding_all rfl); (case zqk3 => intro _; with_unfolding_all rfl)))
  k_with "exec For" => (k_here; k_dflt (refine' wpAny_For ?_))
  k_with "exec While" => (k_here; with_reducible refine wpAny_While ?_)
  k_with "call builtin:list.append" => (k_here; k_dflt (refine' append_LG ?zqk1 ?zqk2 ?zqk3 ?zqk4 ?_; (case zqk1 => k_asm); (case zqk2 => k_asm); (case zqk3 => k_upd); (case zqk4 => walk_at "m_room"); k_whole); intro _ _ _)
  k_with "call builtin:list.pop" => (k_here; k_dflt (refine' pop_LG ?zqk1 ?zqk2 ?zqk3 ?zqk4 ?_; (case zqk1 => k_asm); (case zqk2 => k_asm); (case zqk3 => k_upd); (case zqk4 => walk_at "m_room"); k_whole); intro _ _ _)
  k_with "call builtin:len" => (k_here; (with_reducible show wpAny _ _ (call _ [Value.ref _]) _ _ _); k_dflt (refine' len_LG ?zqk1 ?zqk2 ?_; (case zqk1 => walk_at "m_at"); (case zqk2 => omega)); intro _ _)
  k_with "subscriptTail Name Name ref int" => (k_here; k_dflt (refine' item_LG ?zqk1 ?zqk2 ?zqk3 ?_ ?zqk4 ?zqk5; (case zqk1 => walk_at "m_at"); (case zqk2 => assumption); (case zqk3 => omega); (case zqk4 => with_unfolding_all rfl); (case zqk5 => intro _; with_unfolding_all rfl)))
  k_with "exec Assign cons ListComp" => (k_here; k_dflt (refine' Assign_compS ?zqsel ?zqsw ?zqclos ?zqcell ?zqkind ?zqnames ?zqhx ?zqhy ?zqhp ?zqhs ?_; (case zqsel => assumption); (case zqsw => with_unfolding_all rfl); (case zqclos => with_unfolding_all rfl); (case zqcell => decide); (case zqkind => rfl); (case zqnames => decide); (case zqhx => rfl); (case zqhy => rfl); (case zqhp => rfl); (case zqhs => intro _; rfl)))
  k_with "eval Name" => (k_here; (with_reducible show wpAny _ _ (eval (Expr.Name _ _) (compEnvC _ _ _ _)) _ _ _); k_dflt (first
     | (refine' nameC_g ?zqF ?zqc ?zqm ?zqd ?_ ?zqa ?zqb; (case zqa => rfl); (case zqb => rfl); (case zqF => k_asm); (case zqc => rfl); (case zqm => assumption); (case zqd => assumption); k_whole)
     | (refine' nameL_C ?zqF ?zqv ?_ ?zqa ?zqb ?zqd; (case zqa => rfl); (case zqb => rfl); (case zqd => decide); (case zqF => k_asm); (case zqv => rfl); k_whole)))
  k_with "call builtin:list.count" => (k_here; k_dflt (refine' count_LG ?zqk1 ?zqk2 ?_; (case zqk1 => walk_at "m_at"); (case zqk2 => exact pick_strs (by assumption) _ _)); intro _ _)
  k_with "m_room" => (first | with_reducible refine room_1 ?_ | with_reducible refine room_pp ?_ | with_reducible refine room_ppp ?_ | with_reducible refine room_pn ?_ | with_reducible refine room_pnp ?_); first | assumption | omega
  intro ts rows hsp hlen c A s l vs n h44 h51 hl hvs I hA R hR
  refine' enterC (binds := [(Str.ofString "tokens", .ref l)]) I ?k1 ?k2 hA.lt ?k4 ?k5 ?k6 ?_ ?c2 ?c3 ?c4
  case k1 => k_is
  case k2 => k_is
  case k4 => exact BindsTo.of_eq rfl
  case k5 => exact rfl
  case k6 => decide +kernel
  case c2 => exact rfl
  case c3 => exact rfl
  case c4 => exact rfl
  intro g L h₁ tk1 cells AA hAA Z F N hC I1 X T
  have hA1 := hAA 2 hA
  replace F : Fr g L h₁ (fun _ => none) := F
  obtain ⟨oK, oT, rfl, dK, dT⟩ := CellsAre.two hC
  clear hC
  have hL1 := Z.fresh F (Nat.lt_succ_self L)
  have hL2 := Z.fresh F (Nat.lt_succ_of_lt (Nat.lt_succ_self L))
  have hlg : LAt g l vs n := Z.old _ _ hl h44 h51
  have hvl := hvs.length
  have hvk : vs.length ≤ 1000 := hvl ▸ hlen
  replace dT : oT.data = .cell (some (.ref l)) := dT
  replace dK : oK.data = .cell none := dK
  obtain ⟨p, q, fz, N1, P1, U1⟩ := renewF Z F N (by
    intro x hx
    rcases List.mem_cons.mp hx with rfl | hx
    · exact ⟨hL2.2.2.1, hL2.2.2.2, not_code_cell dK⟩
    · cases List.mem_singleton.mp hx; exact ⟨hL1.2.2.1, hL1.2.2.2, not_code_cell dT⟩) I1
  clear N
  dsimp only [List.cons_append, List.nil_append] at N1
  have l44 : @LT.lt Nat _ 51 (L + 1) := Nat.lt_succ_of_lt (Nat.lt_of_lt_of_le c.lt Z.tl)
  show wpAny _ _ _ _ _ _
  k_fold
  k_steps
  rename IsRange _ _ _ _ _ _ _ _ => hrg
  rename Fr _ _ _ _ => F2
  rename News _ _ _ _ => N2
  rename Above _ _ _ => lA
  rename_i Rw _ _ _ _ _ _ _ h2 _ _ _ _ _
  refine wpAny_pyIter_range hrg (small_one (by decide) (by decide) (by omega) (by omega)) ?_
  have hsz : Builtin.Range.rangeSize 0 (vs.length : Int) 1 = ((vs.length : Nat) : Int) := by rw [rangeSize_one]; split <;> omega
  rw [hsz]
  have I2 := Pt.inv Z P1 F2 N2 (by walk_at "m_fz") (by walk_at "m_tab") (by walk_at "m_tab")
  have RL : @LT.lt Nat _ (L + 2) Rw := lA.all (L + 1 + 1, oK) (by simp)
  have hRw := (N2 (Rw, PySem.W.listOf #[] 0) (List.mem_cons_self ..)).1
  have hcT := (N2 (L + 1, oT) (by simp)).1
  have hcK := (N2 (L + 1 + 1, oK) (by simp)).1
  have hRI := Heap.lt_size hRw
  have hLI : @LT.lt Nat _ (L + 2) h2.objs.size := Nat.lt_trans RL hRI
  have kp : ∀ b o, h2.get? b = some o → (h2.push { cls := .type "range_iterator", data := .fields #[rawInt 0, rawInt (vs.length : Nat), rawInt 1] }).get? b = some o := fun b o e => Heap.get?_push_of_some _ e
  refine walk_loopC (cK := L + 2) (Walks.range hA1.handled h2.objs.size 0 1 vs.length) Z rfl rfl rfl (Nat.lt_succ_of_lt (Nat.lt_succ_self L)) (fun b hb => by cases List.mem_singleton.mp hb; exact F2.ns.lt) (fun i h st b hb o e hc => ?_)
    (fun hb => by cases List.mem_singleton.mp hb; exact Nat.lt_irrefl _ F2.ns.lt) (fun hb => Nat.lt_irrefl _ (by have := List.mem_singleton.mp hb; exact this ▸ hLI)) (SJ s L Rw h2.objs.size oT ts rows) (fun i m' s' h' tk j k => ?_) (fun i m' s' j => ?_)
    (F2.push _) (I2.keeps kp (by rw [Heap.size_push]; exact Nat.le_succ_of_le I2.size)) ?_ ?_ (fun i v m₁ s₁ hi hv hj I₁ st₁ F₁ hck => ?_) (fun s' m' I' F' hj => ?_)
  · cases List.mem_singleton.mp hb
    have st' : h.get? h2.objs.size = _ := st
    rw [e] at st'; cases st'
    obtain ⟨vs', q', t', hd', hv'⟩ := hc
    cases hd'; cases hv'
  · exact fun kc => j.bears RL (Nat.ne_of_lt hRI) hLI (fun b o h1 h2 e => k b o (fun z => h1 (List.mem_singleton.mp z)) h2 e) kc
  · exact j.cK
  · show IsRangeIter _ _ _ _ _
    rw [show (0 : Int) + ((0 : Nat) : Int) * 1 = 0 by simp, show ((vs.length : Nat) : Int) - ((0 : Nat) : Int) = ((vs.length : Nat) : Int) by simp]
    exact Heap.get?_push_size _ rfl
  · exact ⟨⟨0, [], [], rows, rfl, kp _ _ hRw, .nil, by rw [List.drop_zero]; exact hsp, rfl, Nat.le_refl _⟩, kp _ _ hcT, ⟨none, oK, kp _ _ hcK, dK⟩, rfl, rfl⟩
  · obtain ⟨t0, rfl⟩ := hv
    rw [show (0 : Int) + (i : Int) * 1 = (i : Int) by simp] at hck
    obtain ⟨oK', hoK, dK'⟩ := hck
    obtain ⟨nR, rvs, done, rest, a1, a2, a3, a4, a5, a6⟩ := hj.ex
    rw [map_as a1] at F₁
    have F₀ : True → Fr g L s₁.heap _ := fun _ => F₁
    have hRf := Z.fresh F₁ (Nat.lt_of_succ_lt (Nat.lt_of_succ_lt RL))
    have N₁ : News g L s₁.heap [(Rw, PySem.W.listOf rvs.toArray nR), (L + 2, oK'), (L + 1, oT)] := by
      intro x hx
      rcases List.mem_cons.mp hx with rfl | hx
      · exact ⟨a2, hRf.1, hRf.2.1⟩
      · rcases List.mem_cons.mp hx with rfl | hx
        · exact ⟨hoK, hL2.1, hL2.2.1⟩
        · cases List.mem_singleton.mp hx; exact ⟨hj.cT, hL1.1, hL1.2.1⟩
    obtain ⟨p1, q1, fz1, N3, P3, U3⟩ := renewF Z F₁ N₁ (by
      intro x hx
      rcases List.mem_cons.mp hx with rfl | hx
      · exact ⟨hRf.2.2.1, hRf.2.2.2, not_code_list⟩
      · rcases List.mem_cons.mp hx with rfl | hx
        · exact ⟨hL2.2.2.1, hL2.2.2.2, not_code_cell dK'⟩
        · cases List.mem_singleton.mp hx; exact ⟨hL1.2.2.1, hL1.2.2.2, not_code_cell dT⟩) I₁
    dsimp only [List.cons_append, List.nil_append] at N3
    have aR : ∀ x ∈ fz1, x.1 ≠ Rw := U3.apart _ (List.mem_cons_self ..)
    have R51 : @LT.lt Nat _ 51 Rw := Nat.lt_trans l44 (Nat.lt_of_succ_lt RL)
    have R44 : @LT.lt Nat _ 44 Rw := Nat.lt_trans (by decide) R51
    obtain ⟨v1, hv1⟩ : ∃ v1, vs[i]? = some v1 := ⟨_, List.getElem?_eq_getElem hi⟩
    obtain ⟨t, tt, rfl, htk⟩ := hvs.item i v1 hv1
    have hi3 : i < 1001 := by omega
    have hdr := drop_range (n := ts.length) (i := i) (by omega)
    rw [hdr, sparedFrom] at a4
    have sel : PSel (compP ts i) (fun v y => y = v) := ⟨trivial⟩
    clear F2 N2 P1 U1 I2 hRw hcT hcK kp hrg lA
    show wpAny _ _ _ _ _ _
    k_fold
    k_steps
    · rename (t == Str.ofString "(") = true => hto
      replace hto : t = sO := eq_of_beq hto
      rw [htk, hto, if_pos rfl] at a4
      rename IsRange _ _ _ _ _ _ _ _ => hrg
      rename Fr _ _ _ _ => F4
      rename News _ _ _ _ => N4
      obtain ⟨e, rest', he, hre, rfl⟩ : ∃ e rest', endOf ts i = some e ∧ sparedFrom ts ((List.range ts.length).drop (i + 1)) = some rest' ∧ rest = rowOf ts i e :: rest' := by
        split at a4
        · rename_i e r h1 h2; cases a4; exact ⟨e, r, h1, h2, rfl⟩
        · cases a4
      refine wpAny_pyIter_range hrg (small_one (by omega) (by omega) (by omega) (by omega)) ?_
      have hsz2 : Builtin.Range.rangeSize (i : Int) (vs.length : Int) 1 = ((vs.length - i : Nat) : Int) := by rw [rangeSize_one]; split <;> omega
      rw [hsz2]
      have I4 := Pt.inv Z P3 F4 N4 (by walk_at "m_fz") (by walk_at "m_tab") (by walk_at "m_tab")
      have hcK4 := (N4 (L + 2, oK') (by simp)).1
      have hcT4 := (N4 (L + 1, oT) (by simp)).1
      have hR4 := (N4 (Rw, PySem.W.listOf rvs.toArray nR) (List.mem_cons_self ..)).1
      rename_i h4 _ _ _ _ _
      dsimp only at hcK4 hcT4 hR4 ⊢
      have k4 := P3.kept F4 N4 (by walk_at "m_fz")
      have kp : ∀ b o, h4.get? b = some o → (h4.push { cls := .type "range_iterator", data := .fields #[rawInt (i : Int), rawInt ((vs.length - i : Nat) : Int), rawInt 1] }).get? b = some o := fun b o e => Heap.get?_push_of_some _ e
      have hid : ∀ b o, h4.get? b = some o → (hideAll (h4.push { cls := .type "range_iterator", data := .fields #[rawInt (i : Int), rawInt ((vs.length - i : Nat) : Int), rawInt 1] }) [h4.objs.size]).get? b = some o := fun b o e => hideAll_get _ (kp b o e) (by simp only [List.mem_singleton]; exact Nat.ne_of_lt (Heap.lt_size e))
      have hL4 := F4.ns.lt
      refine ⟨h4.objs.size, [h4.objs.size], [h4.objs.size], vs.length - i, _, _, _, rfl, (Walks.range hA1.handled h4.objs.size (i : Int) 1 (vs.length - i)).bound, by rw [PySem.sizeLine_eq]; omega, ?_, fun b hb => ?_, fun hb => ?_, F4.ns.push _, fun C hC j v s₃ m₃ hv hF hm => ?_, fun C hC j v s₃ m₃ hv hpv hF hm => ?_, fun D h' tk ys vs2 hD hD0 hpl hlen2 hP2 hFv hn hk => ?_⟩
      · show IsRangeIter _ _ _ _ _
        rw [show (i : Int) + ((0 : Nat) : Int) * 1 = i by omega, show ((vs.length - i : Nat) : Int) - ((0 : Nat) : Int) = ((vs.length - i : Nat) : Int) by omega]
        exact Heap.get?_push_size _ rfl
      · cases List.mem_singleton.mp hb; rw [Heap.size_push]; exact Nat.lt_succ_self _
      · exact Nat.lt_irrefl _ (by have := List.mem_singleton.mp hb; exact this ▸ hL4)
      · obtain ⟨hjl, t0', rfl⟩ := hv
        have X2 := X.keeps fun b o e => hid b o (F4.keep b o e)
        have T2 := T.keeps fun b o e => hid b o (F4.keep b o e)
        have hlg2 : LAt _ l vs n := hid _ _ (F4.keep _ _ hlg)
        have hcK2 := hid _ _ hcK4
        have hcT2 := hid _ _ hcT4
        rw [map_as hm] at hF
        obtain ⟨fz2, N5, Z5⟩ := freeze0 hF
        refine wpAny_tests_one ?_
        clear F4 N4 X T P3 U3 I4 k4 kp hrg hid hsp I₁ st₁ F₀ N₁ hR4 hcK4 hcT4
        generalize hideAll _ _ = g2 at *
        show wpAny _ _ _ _ _ _
        k_fold
        k_steps
        · exact bal_pick (by omega) (by omega)
        · rename Fr _ _ _ _ => F6
          rename News _ _ _ _ => N6
          rw [map_as hm]
          exact Z5.quiet F6 N6 (by walk_at "m_fz")
      · exact nameL_C hF hm ⟨rfl, ⟨s₃.heap, s₃.toks, rfl, hF, fun _ _ _ e => e⟩⟩ rfl rfl (by decide)
      · have hvs2 := comp_first he (by rw [hlen2, hvl]) fun j v e => (hP2 j v e).2
        obtain ⟨te, rest2, hfl, hie, hel⟩ := hvs2
        rw [hfl] at hFv
        have hys := paired_eq hFv
        obtain ⟨nD, hDe⟩ := hpl
        have hys2 : ys = (Value.int (e : Int) te :: rest2).toArray := by rw [← hys, Array.toArray_toList]
        subst hys2
        have hk4 : ∀ b o, b ≠ L → h4.get? b = some o → h'.get? b = some o := fun b o hb e => hk b o hb (by simp only [List.mem_singleton]; exact Nat.ne_of_lt (Heap.lt_size e)) (kp b o e)
        have F6 : Fr g L h' _ := fr_but F4 hn fun b o hb e _ => hk4 b o hb e
        have hLD : @LT.lt Nat _ L D := Nat.lt_of_lt_of_le (Nat.lt_succ_of_lt hL4) (by rw [Heap.size_push] at hD; exact hD)
        have hDf := Z.fresh F6 hLD
        have N6 : News g L h' [(D, PySem.W.listOf (Value.int (e : Int) te :: rest2).toArray nD), (Rw, PySem.W.listOf rvs.toArray nR), (L + 2, oK'), (L + 1, oT)] := by
          intro x hx
          rcases List.mem_cons.mp hx with rfl | hx
          · exact ⟨hDe, hDf.1, hDf.2.1⟩
          · rcases List.mem_cons.mp hx with rfl | hx
            · exact ⟨hk4 _ _ hRf.1 hR4, hRf.1, hRf.2.1⟩
            · rcases List.mem_cons.mp hx with rfl | hx
              · exact ⟨hk4 _ _ hL2.1 hcK4, hL2.1, hL2.2.1⟩
              · cases List.mem_singleton.mp hx; exact ⟨hk4 _ _ hL1.1 hcT4, hL1.1, hL1.2.1⟩
        have I6 : Inv c h' := I4.but (fun b => b = L) (fun b o e hb => hk4 b o hb e) (fun b hb => by rw [hb]; exact Z.tl) (fun b o hb e hc => by
          obtain ⟨oL, es, ep, eL, hdL, _⟩ := F4.ns
          obtain ⟨vs, _, _, hv, _⟩ := hc
          rw [hb, eL] at e; cases e; rw [hdL] at hv; cases hv) (Nat.le_trans Z.tl (Nat.le_of_lt F6.ns.lt))
        obtain ⟨p6, q6, fz6, N7, P7, U7⟩ := renewF Z F6 N6 (by
          intro x hx
          rcases List.mem_cons.mp hx with rfl | hx
          · exact ⟨hDf.2.2.1, hDf.2.2.2, not_code_list⟩
          · rcases List.mem_cons.mp hx with rfl | hx
            · exact ⟨hRf.2.2.1, hRf.2.2.2, not_code_list⟩
            · rcases List.mem_cons.mp hx with rfl | hx
              · exact ⟨hL2.2.2.1, hL2.2.2.2, not_code_cell dK'⟩
              · cases List.mem_singleton.mp hx; exact ⟨hL1.2.2.1, hL1.2.2.2, not_code_cell dT⟩) I6
        dsimp only [List.cons_append, List.nil_append] at N7
        have aR7 : ∀ x ∈ fz6, x.1 ≠ Rw := U7.apart (Rw, PySem.W.listOf rvs.toArray nR) (by simp)
        have hRD : @LT.lt Nat _ Rw D := Nat.lt_of_lt_of_le (Nat.lt_succ_of_lt (Heap.lt_size hR4)) (by rw [Heap.size_push] at hD; exact hD)
        have F60 : True → Fr g L h' _ := fun _ => F6
        clear F4 N4 P3 hrg kp hid
        show wpAny _ _ _ _ _ _
        k_steps
        rename Fr _ _ _ _ => F8
        rename News _ _ _ _ => N8
        rename Above _ _ _ => lA8
        have I8 := Pt.inv Z P7 F8 N8 (by walk_at "m_fz") (by walk_at "m_tab") (by walk_at "m_tab")
        have k8 := P7.kept F8 N8 (by walk_at "m_fz")
        have hbl : ∀ (b : Addr) o, @LT.lt Nat _ (L + 2) b → b ≠ Rw → h4.get? b = some o → _ := fun b o hb h1 e => by
          have hb51 : @LT.lt Nat _ 51 b := Nat.lt_trans (Nat.lt_trans l44 (Nat.lt_succ_self _)) hb
          refine k8 b o (hk4 b o (Nat.ne_of_gt (Nat.lt_of_succ_lt (Nat.lt_of_succ_lt hb))) e) (Nat.ne_of_gt (Nat.lt_of_succ_lt (Nat.lt_of_succ_lt hb))) (Nat.ne_of_gt (Nat.lt_trans (by decide) hb51)) (Nat.ne_of_gt hb51) fun y hy => ?_
          rcases List.mem_cons.mp hy with rfl | hy
          · exact Nat.ne_of_lt (Nat.lt_of_lt_of_le (Heap.lt_size e) (Nat.le_of_succ_le (by rw [Heap.size_push] at hD; exact hD)))
          · rcases List.mem_cons.mp hy with rfl | hy
            · exact h1
            · rcases List.mem_cons.mp hy with rfl | hy
              · exact Nat.ne_of_gt hb
              · cases List.mem_singleton.mp hy; exact Nat.ne_of_gt (Nat.lt_of_succ_lt hb)
        have hall : ∀ (b : Addr) o, @LT.lt Nat _ (L + 2) b → b ≠ Rw → s₁.heap.get? b = some o → h4.get? b = some o := fun b o hb h1 e => by
          have hb51 : @LT.lt Nat _ 51 b := Nat.lt_trans (Nat.lt_trans l44 (Nat.lt_succ_self _)) hb
          refine k4 b o e (Nat.ne_of_gt (Nat.lt_of_succ_lt (Nat.lt_of_succ_lt hb))) (Nat.ne_of_gt (Nat.lt_trans (by decide) hb51)) (Nat.ne_of_gt hb51) fun y hy => ?_
          rcases List.mem_cons.mp hy with rfl | hy
          · exact h1
          · rcases List.mem_cons.mp hy with rfl | hy
            · exact Nat.ne_of_gt hb
            · cases List.mem_singleton.mp hy; exact Nat.ne_of_gt (Nat.lt_of_succ_lt hb)
        have hIR : h2.objs.size ≠ Rw := Nat.ne_of_gt hRI
        have st₁' : s₁.heap.get? h2.objs.size = _ := st₁
        have hI4 := hall _ _ hLI hIR st₁'
        have hIfz := U7.all h2.objs.size _ (hk4 _ _ (Nat.ne_of_gt (Nat.lt_of_succ_lt (Nat.lt_of_succ_lt hLI))) hI4) (Nat.ne_of_gt (Nat.lt_of_succ_lt (Nat.lt_of_succ_lt hLI))) (Nat.ne_of_gt (Nat.lt_trans (by decide) (Nat.lt_trans R51 hRI))) (Nat.ne_of_gt (Nat.lt_trans R51 hRI)) (fun y hy => by
          rcases List.mem_cons.mp hy with rfl | hy
          · exact Nat.ne_of_lt (Nat.lt_of_lt_of_le (Heap.lt_size hI4) (Nat.le_of_succ_le (by rw [Heap.size_push] at hD; exact hD)))
          · rcases List.mem_cons.mp hy with rfl | hy
            · exact hIR
            · rcases List.mem_cons.mp hy with rfl | hy
              · exact Nat.ne_of_gt hLI
              · cases List.mem_singleton.mp hy; exact Nat.ne_of_gt (Nat.lt_of_succ_lt hLI)) (Heap.get?_none_of_le (Nat.le_trans F8.above (Nat.le_of_lt (Nat.lt_of_succ_lt (Nat.lt_of_succ_lt hLI)))))
        have hlI := lA8.all _ (in_tail5 hIfz)
        have hlR := lA8.all (Rw, PySem.W.listOf rvs.toArray nR) (by simp)
        have hlL := lA8.all (L + 2, oK') (by simp)
        refine ⟨⟨_, F8, ⟨nR + 1, _, done ++ [rowOf ts i e], rest', rfl, (N8 (Rw, _) (by k_mem)).1, RowsAre.snoc (a3.keeps fun b o hb e => hbl b o hb.1 hb.2.1 (hall b o hb.1 hb.2.1 e)) ⟨hlL, Nat.ne_of_gt hlR, Nat.ne_of_gt hlI⟩ (N8 _ (List.mem_cons_self ..)).1 (row_strs hvs (by omega) (by omega)), hre, ?_, ?_⟩, (N8 (L + 1, oT) (by simp)).1, ⟨_, oK', (N8 (L + 2, oK') (by simp)).1, dK'⟩, hj.gens, hj.os⟩, I8, hbl _ _ hLI hIR hI4⟩
        · rw [a5, List.append_assoc]; rfl
        · rw [List.length_append, List.length_singleton]; omega
    · rename (t == Str.ofString "(") = false => hto
      rw [htk, if_neg (fun z => ne_of_beq_false hto (Option.some.inj z))] at a4
      exact ⟨⟨_, F₀ trivial, ⟨nR, rvs, done, rest, rfl, a2, a3, a4, a5, by omega⟩, hj.cT, hj.cK, hj.gens, hj.os⟩, I₁, st₁⟩
  · obtain ⟨nR, rvs, done, rest, a1, a2, a3, a4, a5, a6⟩ := hj.ex
    rw [map_as a1] at F'
    have hd0 : (List.range ts.length).drop vs.length = [] := List.drop_eq_nil_of_le (by rw [List.length_range, hvl]; exact Nat.le_refl _)
    rw [hd0, sparedFrom] at a4
    cases a4
    rw [List.append_nil] at a5
    subst a5
    obtain ⟨p1, q1, fz1, N3, P3⟩ := renew Z F' (own := []) News.nil (fun _ hx => by cases hx) I'
    clear F2 N2 P1 U1 hRw hcT hcK kp hrg lA
    show wpAny _ _ _ _ _ _
    k_steps
    rename Fr _ _ _ _ => F5
    rename News _ _ _ _ => N5
    have k5 := P3.kept F5 N5 (by walk_at "m_fz")
    have hk5 : ∀ (b : Addr) o, @LT.lt Nat _ (L + 2) b → s'.heap.get? b = some o → _ := fun b o hb e => by
      have hb51 : @LT.lt Nat _ 51 b := Nat.lt_trans (Nat.lt_trans l44 (Nat.lt_succ_self _)) hb
      exact k5 b o e (Nat.ne_of_gt (Nat.lt_of_succ_lt (Nat.lt_of_succ_lt hb))) (Nat.ne_of_gt (Nat.lt_trans (by decide) hb51)) (Nat.ne_of_gt hb51) (fun _ hy => by cases hy)
    exact hR _ _ (fin (s' := Shared.mk _ _ _ _ _) Z F5 (Pt.inv Z P3 F5 N5 (by walk_at "m_fz") (by walk_at "m_tab") (by walk_at "m_tab")) (fun _ _ e => by rw [hj.gens]; exact e) (fun e => by rw [hj.gens]; exact e) hj.os)
      ⟨Rw, rvs, nR, rfl, Nat.le_trans Z.le (Nat.le_of_lt (Nat.lt_of_succ_lt (Nat.lt_of_succ_lt RL))), hk5 _ _ RL a2, (a3.keeps fun b o hb e => hk5 b o hb.1 e).mono fun b hb _ => ⟨Nat.le_trans Z.le (Nat.le_of_lt (Nat.lt_of_succ_lt (Nat.lt_of_succ_lt hb.1))), hb.2.1⟩⟩
end Mine

end
section
open PySem PySem.W PyProof.Rows PySem.Calls PySem.Spec
namespace Mine
/-- trees and tokens with numbers in place of texts: 0 minus, 1 slash, 2 and 3 the brackets, 4 and more the leaves -/
inductive NT where
  | leaf (n : Nat)
  | node (sg : Nat) (a b : NT)
def eqN : NT → NT → Bool
  | .leaf n, .leaf k => n == k
  | .node s a b, .node t c d => s == t && eqN a c && eqN b d
  | _, _ => false
theorem eqN_eq : ∀ (a b : NT), eqN a b = true → a = b
  | .leaf n, .leaf k, h => by rw [show n = k from eq_of_beq h]
  | .node s a b, .node t c d, h => by
    have h' : (s == t && eqN a c && eqN b d) = true := h
    rw [Bool.and_eq_true, Bool.and_eq_true] at h'
    rw [show s = t from eq_of_beq h'.1.1, eqN_eq a c h'.1.2, eqN_eq b d h'.2]
  | .leaf _, .node _ _ _, h => by cases h
  | .node _ _ _, .leaf _, h => by cases h
def isN (o : Option NT) (t : NT) : Bool := match o with
  | some a => eqN a t
  | none => false
theorem isN_eq {o : Option NT} {t : NT} (h : isN o t = true) : o = some t := by
  cases o with
  | none => cases h
  | some a => rw [eqN_eq a t h]
def NT.isMinus : NT → Bool
  | .leaf _ => false
  | .node sg _ _ => sg == 0
def NT.isNode : NT → Bool
  | .leaf _ => false
  | .node _ _ _ => true
def toksN : NT → List Nat
  | .leaf x => [x]
  | .node sg a b =>
    (if (sg == 1) = true ∧ a.isMinus = true then [2] ++ toksN a ++ [3] else toksN a) ++ [sg] ++ (if b.isNode = true ∧ ((sg == 1) = true ∨ b.isMinus = true) then [2] ++ toksN b ++ [3] else toksN b)
def balN : List Nat → Nat → Bool
  | [], n => n == 0
  | u :: r, n => if u = 2 then balN r (n + 1) else if u = 3 then (match n with | 0 => false | n + 1 => balN r n) else balN r n
theorem balN_S (u : Nat) (r : List Nat) (n : Nat) : balN (u :: r) n = if u = 2 then balN r (n + 1) else if u = 3 then (match n with | 0 => false | n + 1 => balN r n) else balN r n := rfl
def hitsN (sign : Nat) : List Nat → List Nat → List Nat
  | _, [] => []
  | pre, t :: r => if t = sign ∧ balN pre 0 = true then pre.length :: hitsN sign (pre ++ [t]) r else hitsN sign (pre ++ [t]) r
def oneLeaf : List Nat → Option NT
  | [x] => some (.leaf x)
  | _ => none
def readN : Nat → List Nat → Option NT
  | 0, _ => none
  | n + 1, ts => match (hitsN 0 [] ts).getLast? with
    | some k => match readN n (ts.take k), readN n (ts.drop (k + 1)) with
      | some a, some b => some (.node 0 a b)
      | _, _ => none
    | none => match (hitsN 1 [] ts).getLast? with
      | some k => match readN n (ts.take k), readN n (ts.drop (k + 1)) with
        | some a, some b => some (.node 1 a b)
        | _, _ => none
      | none => if ts.head? = some 2 then (if ts.tail.getLast? = some 3 then readN n ts.tail.dropLast else none) else oneLeaf ts
def rankN (w : Nat) : Option Nat := if w = 2 then some 0 else if w = 0 then some 1 else if w = 1 then some 2 else none
def redN (lim : Nat) : List Nat → List NT → Option (List NT × List Nat)
  | [], _ => none
  | w :: ws, trs => match rankN w with
    | none => none
    | some r => if lim ≤ r then (match trs with
      | x :: y :: rest => redN lim ws (.node w y x :: rest)
      | _ => none) else some (trs, w :: ws)
theorem redN_S (lim : Nat) (w : Nat) (ws : List Nat) (trs : List NT) : redN lim (w :: ws) trs = match rankN w with
  | none => none
  | some r => if lim ≤ r then (match trs with
    | x :: y :: rest => redN lim ws (.node w y x :: rest)
    | _ => none) else some (trs, w :: ws) := rfl
def fstepN (st : List NT × List Nat) (t : Nat) : Option (List NT × List Nat) :=
  if t = 0 ∨ t = 1 ∨ t = 3 then
    match redN (if t = 1 then 2 else 1) st.2 st.1 with
    | some (trs, ws) => if t = 3 then some (trs, ws.tail) else some (trs, t :: ws)
    | none => none
  else if t = 2 then some (st.1, t :: st.2)
  else some (.leaf t :: st.1, st.2)
def fstepsN (st : List NT × List Nat) : List Nat → Option (List NT × List Nat)
  | [] => some st
  | t :: r => match fstepN st t with
    | some st' => fstepsN st' r
    | none => none
def frontN (ts : List Nat) : Option NT := match fstepsN ([], [2]) (ts ++ [3]) with
  | some (trs, _) => trs.getLast?
  | none => none
def cntN (c : Nat) (ts : List Nat) : Nat := ts.countP (· == c)
def balAtN (ts : List Nat) (k m : Nat) : Bool := cntN 2 ((ts.drop k).take (m + 1 - k)) == cntN 3 ((ts.drop k).take (m + 1 - k))
def endN (ts : List Nat) (k : Nat) : Option Nat := ((List.range (ts.length - k)).map (k + ·)).find? (balAtN ts k)
def rowN (ts : List Nat) (k e : Nat) : List Nat := ts.take k ++ (ts.drop (k + 1)).take (e - (k + 1)) ++ ts.drop (e + 1)
def sparedFromN (ts : List Nat) : List Nat → Option (List (List Nat))
  | [] => some []
  | k :: r => if ts[k]? = some 2 then
      match endN ts k, sparedFromN ts r with
      | some e, some rows => some (rowN ts k e :: rows)
      | _, _ => none
    else sparedFromN ts r
def sparedN (ts : List Nat) : Option (List (List Nat)) := sparedFromN ts (List.range ts.length)
def shapes : Nat → Nat → Nat → List NT
  | 0, _, _ => []
  | f + 1, n, s => if n = 1 then [.leaf s] else (List.range (n - 1)).flatMap fun i => (shapes f (i + 1) s).flatMap fun a => (shapes f (n - (i + 1)) (s + (i + 1))).flatMap fun b => [.node 0 a b, .node 1 a b]
def okN : NT → Bool
  | .leaf n => decide (4 ≤ n)
  | .node sg a b => decide (sg < 2) && okN a && okN b
def depthN : NT → Nat
  | .leaf _ => 0
  | .node _ a b => max (depthN a) (depthN b) + 1
def rowOkN (row : List Nat) : Bool := match readN 12 row, frontN row with
  | some a, some b => eqN a b && okN a && decide (depthN a ≤ 64)
  | _, _ => false
def checkN (t : NT) : Bool := isN (readN 12 (toksN t)) t && decide ((toksN t).length ≤ 100) && match sparedN (toksN t) with
  | some rows => rows.all rowOkN
  | none => false
theorem check3 : (shapes 5 3 4).all checkN = true := by decide +kernel
theorem check4 : (shapes 5 4 4).all checkN = true := by decide +kernel
def part5 (i : Nat) : List NT := (shapes 4 (i + 1) 4).flatMap fun a => (shapes 4 (5 - (i + 1)) (4 + (i + 1))).flatMap fun b => [.node 0 a b, .node 1 a b]
theorem check50 : (part5 0).all checkN = true := by decide +kernel
theorem check51 : (part5 1).all checkN = true := by decide +kernel
theorem check52 : (part5 2).all checkN = true := by decide +kernel
theorem check53 : (part5 3).all checkN = true := by decide +kernel
theorem shapes5 : shapes 5 5 4 = [0, 1, 2, 3].flatMap part5 := rfl
theorem check5 : (shapes 5 5 4).all checkN = true := by
  rw [shapes5, List.all_flatMap, List.all_cons, List.all_cons, List.all_cons, List.all_cons, check50, check51, check52, check53]; rfl
end Mine

end
section
open PySem PySem.W PyProof.Rows PySem.Calls PySem.Spec
namespace Mine
/-- texts for numbers -/
structure Sig (σ : Nat → Str) : Prop where
  m : ∀ n, σ n = sM ↔ n = 0
  d : ∀ n, σ n = sD ↔ n = 1
  o : ∀ n, σ n = sO ↔ n = 2
  c : ∀ n, σ n = sC ↔ n = 3
def NT.tree (σ : Nat → Str) : NT → Tree
  | .leaf x => .leaf (σ x)
  | .node sg a b => .node (σ sg) (a.tree σ) (b.tree σ)
section
variable {σ : Nat → Str} (S : Sig σ)
include S
theorem bal_nat : ∀ (ts : List Nat) (n : Nat), balU (ts.map σ) (n : Int) = balN ts n
  | [], n => by
    rw [List.map_nil, balU, balN]
    rw [Bool.eq_iff_iff, beq_iff_eq, beq_iff_eq]; omega
  | u :: r, n => by
    rw [List.map_cons, balU, balN_S, ← sO_is, ← sC_is]
    by_cases h2 : u = 2
    · rw [if_pos ((S.o u).mpr h2), if_pos h2, show (n : Int) + 1 = ((n + 1 : Nat) : Int) by omega, bal_nat r]
    · rw [if_neg (fun z => h2 ((S.o u).mp z)), if_neg h2]
      by_cases h3 : u = 3
      · rw [if_pos ((S.c u).mpr h3), if_pos h3]
        cases n with
        | zero => rw [if_pos (by decide)]
        | succ n => rw [if_neg (by omega), show ((n + 1 : Nat) : Int) - 1 = ((n : Nat) : Int) by omega, bal_nat r]
      · rw [if_neg (fun z => h3 ((S.c u).mp z)), if_neg h3, bal_nat r]
theorem hits_nat {s : Nat} {sg : Str} (hs : ∀ n, σ n = sg ↔ n = s) : ∀ (ts pre : List Nat), hitsT sg (pre.map σ) (ts.map σ) = hitsN s pre ts
  | [], _ => rfl
  | t :: r, pre => by
    have ih := hits_nat hs r (pre ++ [t])
    rw [List.map_append] at ih
    rw [List.map_cons, hitsT, hitsN, List.length_map]
    have e : balU (pre.map σ) 0 = balN pre 0 := bal_nat S pre 0
    rw [e]
    by_cases h : t = s ∧ balN pre 0 = true
    · rw [if_pos ⟨(hs t).mpr h.1, h.2⟩, if_pos h]; exact congrArg _ ih
    · rw [if_neg (fun z => h ⟨(hs t).mp z.1, z.2⟩), if_neg h]; exact ih
theorem read_nat : ∀ (n : Nat) (ts : List Nat) (t : NT), readN n ts = some t → readO n (ts.map σ) = some (t.tree σ)
  | 0, _, _, h => by cases h
  | n + 1, ts, t, h => by
    have e0 := hits_nat S S.m ts []
    have e1 := hits_nat S S.d ts []
    rw [List.map_nil] at e0 e1
    rw [readO_S, e0, e1]
    rw [readN] at h
    cases h0 : (hitsN 0 [] ts).getLast? with
    | some k =>
      rw [h0] at h
      dsimp only at h ⊢
      split at h
      · rename_i a b ha hb
        cases h
        rw [← List.map_take, ← List.map_drop, read_nat n _ _ ha, read_nat n _ _ hb]
        show some (Tree.node sM _ _) = some (Tree.node (σ 0) _ _)
        rw [(S.m 0).mpr rfl]
      · cases h
    | none =>
      rw [h0] at h
      dsimp only at h ⊢
      cases h1 : (hitsN 1 [] ts).getLast? with
      | some k =>
        rw [h1] at h
        dsimp only at h ⊢
        split at h
        · rename_i a b ha hb
          cases h
          rw [← List.map_take, ← List.map_drop, read_nat n _ _ ha, read_nat n _ _ hb]
          show some (Tree.node sD _ _) = some (Tree.node (σ 1) _ _)
          rw [(S.d 1).mpr rfl]
        · cases h
      | none =>
        rw [h1] at h
        dsimp only at h ⊢
        by_cases hh : ts.head? = some 2
        · rw [if_pos hh] at h
          have hh' : (ts.map σ).head? = some sO := by rw [List.head?_map, hh]; exact congrArg some ((S.o 2).mpr rfl)
          rw [if_pos hh']
          by_cases hl : ts.tail.getLast? = some 3
          · rw [if_pos hl] at h
            have hl' : (ts.map σ).tail.getLast? = some sC := by rw [← List.map_tail, List.getLast?_map, hl]; exact congrArg some ((S.c 3).mpr rfl)
            rw [if_pos hl', ← List.map_tail, ← List.map_dropLast]
            exact read_nat n _ _ h
          · rw [if_neg hl] at h; cases h
        · rw [if_neg hh] at h
          have hh' : ¬ (ts.map σ).head? = some sO := by
            rw [List.head?_map]
            intro z
            obtain ⟨a, ha, hb⟩ := Option.map_eq_some_iff.mp z
            exact hh (by rw [ha, (S.o a).mp hb])
          rw [if_neg hh']
          match ts, h with
          | [x], h =>
            cases h
            show some (Tree.leaf (text [σ x])) = some (Tree.leaf (σ x))
            have : text [σ x] = σ x := by
              unfold text flat
              rw [List.flatMap_cons, List.flatMap_nil, List.append_nil]
            rw [this]
theorem minus_nat : ∀ (t : NT), (t.tree σ).isMinus = t.isMinus
  | .leaf _ => rfl
  | .node sg _ _ => by
    show (σ sg == sM) = (sg == 0)
    rw [Bool.eq_iff_iff, beq_iff_eq, beq_iff_eq]; exact S.m sg
theorem toks_nat : ∀ (t : NT), toks (t.tree σ) = (toksN t).map σ
  | .leaf _ => rfl
  | .node sg a b => by
    have iha := toks_nat a
    have ihb := toks_nat b
    have hb : (b.tree σ).isNode = b.isNode := by cases b <;> rfl
    have hs : (σ sg == sD) = (sg == 1) := by rw [Bool.eq_iff_iff, beq_iff_eq, beq_iff_eq]; exact S.d sg
    show toks (.node (σ sg) (a.tree σ) (b.tree σ)) = _
    rw [toks, toksN, hs, minus_nat S a, minus_nat S b, hb, iha, ihb]
    have eo : sO = σ 2 := ((S.o 2).mpr rfl).symm
    have ec : sC = σ 3 := ((S.c 3).mpr rfl).symm
    rw [eo, ec, List.map_append, List.map_append]
    congr 1
    · congr 1
      split
      · rw [List.map_append, List.map_append]; rfl
      · rfl
    · split
      · rw [List.map_append, List.map_append]; rfl
      · rfl
theorem rank_nat (w : Nat) : rank (σ w) = rankN w := by
  unfold rank rankN
  by_cases h2 : w = 2
  · rw [if_pos ((S.o w).mpr h2), if_pos h2]
  · rw [if_neg (fun z => h2 ((S.o w).mp z)), if_neg h2]
    by_cases h0 : w = 0
    · rw [if_pos ((S.m w).mpr h0), if_pos h0]
    · rw [if_neg (fun z => h0 ((S.m w).mp z)), if_neg h0]
      by_cases h1 : w = 1
      · rw [if_pos ((S.d w).mpr h1), if_pos h1]
      · rw [if_neg (fun z => h1 ((S.d w).mp z)), if_neg h1]
theorem red_nat (lim : Nat) : ∀ (ws : List Nat) (trs : List NT) (res : List NT × List Nat), redN lim ws trs = some res → red lim (ws.map σ) (trs.map (NT.tree σ)) = some (res.1.map (NT.tree σ), res.2.map σ)
  | [], _, _, h => by cases h
  | w :: ws, trs, res, h => by
    rw [List.map_cons, red_S, rank_nat S]
    have h' := h
    rw [redN_S] at h'
    cases hr : rankN w with
    | none => rw [hr] at h'; cases h'
    | some r =>
      rw [hr] at h'
      dsimp only at h' ⊢
      by_cases hl : lim ≤ r
      · rw [if_pos hl] at h' ⊢
        split at h'
        · rename_i x y rest
          exact red_nat lim ws _ res h'
        · cases h'
      · rw [if_neg hl] at h' ⊢
        cases h'; rfl
theorem fstep_nat {st st' : List NT × List Nat} {t : Nat} (h : fstepN st t = some st') : fstep (st.1.map (NT.tree σ), st.2.map σ) (σ t) = some (st'.1.map (NT.tree σ), st'.2.map σ) := by
  unfold fstepN at h
  unfold fstep
  by_cases h1 : t = 0 ∨ t = 1 ∨ t = 3
  · rw [if_pos h1] at h
    rw [if_pos (by rcases h1 with z | z | z; exact .inl ((S.m t).mpr z); exact .inr (.inl ((S.d t).mpr z)); exact .inr (.inr ((S.c t).mpr z)))]
    have hl : (if σ t = sD then 2 else 1) = (if t = 1 then 2 else 1) := by
      by_cases z : t = 1
      · rw [if_pos z, if_pos ((S.d t).mpr z)]
      · rw [if_neg z, if_neg (fun q => z ((S.d t).mp q))]
    rw [hl]
    cases hr : redN (if t = 1 then 2 else 1) st.2 st.1 with
    | none => rw [hr] at h; cases h
    | some res =>
      rw [hr] at h
      dsimp only at h ⊢
      rw [red_nat S _ _ _ _ hr]
      dsimp only
      by_cases z : t = 3
      · rw [if_pos z] at h
        rw [if_pos ((S.c t).mpr z)]
        cases h
        rw [← List.map_tail]
      · rw [if_neg z] at h
        rw [if_neg (fun q => z ((S.c t).mp q))]
        cases h; rfl
  · rw [if_neg h1] at h
    rw [if_neg (fun z => h1 (by rcases z with z | z | z; exact .inl ((S.m t).mp z); exact .inr (.inl ((S.d t).mp z)); exact .inr (.inr ((S.c t).mp z))))]
    by_cases z : t = 2
    · rw [if_pos z] at h
      rw [if_pos ((S.o t).mpr z)]
      cases h; rfl
    · rw [if_neg z] at h
      rw [if_neg (fun q => z ((S.o t).mp q))]
      cases h; rfl
theorem fsteps_nat : ∀ (ts : List Nat) (st st' : List NT × List Nat), fstepsN st ts = some st' → fsteps (st.1.map (NT.tree σ), st.2.map σ) (ts.map σ) = some (st'.1.map (NT.tree σ), st'.2.map σ)
  | [], st, st', h => by cases h; rfl
  | t :: r, st, st', h => by
    rw [fstepsN] at h
    cases hf : fstepN st t with
    | none => rw [hf] at h; cases h
    | some s1 =>
      rw [hf] at h
      rw [List.map_cons, fsteps, fstep_nat S hf]
      exact fsteps_nat r s1 st' h
theorem front_nat {ts : List Nat} {t : NT} (h : frontN ts = some t) : frontO (ts.map σ) = some (t.tree σ) := by
  unfold frontN at h
  unfold frontO
  split at h
  · rename_i trs ws hs
    have := fsteps_nat S _ _ _ hs
    rw [List.map_append] at this
    have e2 : ([2] : List Nat).map σ = [sO] := by rw [List.map_cons, List.map_nil, (S.o 2).mpr rfl]
    have e3 : ([3] : List Nat).map σ = [sC] := by rw [List.map_cons, List.map_nil, (S.c 3).mpr rfl]
    rw [e2, e3, List.map_nil] at this
    rw [this]
    dsimp only
    rw [List.getLast?_map, h]; rfl
  · cases h
theorem cnt_nat {s : Nat} {sg : Str} (hs : ∀ n, σ n = sg ↔ n = s) (ts : List Nat) : cnt sg (ts.map σ) = (cntN s ts : Int) := by
  rw [cnt_count, List.countP_map]
  unfold cntN
  congr 1
  apply List.countP_congr
  intro x _
  show (σ x == sg) = true ↔ (x == s) = true
  rw [beq_iff_eq, beq_iff_eq]; exact hs x
theorem balAt_nat (ts : List Nat) (k m : Nat) : balAt (ts.map σ) k m = balAtN ts k m := by
  unfold balAt balAtN
  rw [← List.map_drop, ← List.map_take, cnt_nat S S.o, cnt_nat S S.c, Bool.eq_iff_iff, beq_iff_eq, beq_iff_eq]
  omega
theorem end_nat (ts : List Nat) (k : Nat) : endOf (ts.map σ) k = endN ts k := by
  unfold endOf endN
  rw [List.length_map]
  exact find_congr _ fun x _ => balAt_nat S ts k x
theorem row_nat (ts : List Nat) (k e : Nat) : rowOf (ts.map σ) k e = (rowN ts k e).map σ := by
  unfold rowOf rowN
  rw [List.map_append, List.map_append, List.map_take, List.map_take, List.map_drop, List.map_drop]
theorem spared_nat (ts : List Nat) : ∀ (l : List Nat) (rows : List (List Nat)), sparedFromN ts l = some rows → sparedFrom (ts.map σ) l = some (rows.map (List.map σ))
  | [], rows, h => by cases h; rfl
  | k :: r, rows, h => by
    rw [sparedFromN] at h
    rw [sparedFrom]
    by_cases hk : ts[k]? = some 2
    · rw [if_pos hk] at h
      rw [if_pos (by rw [List.getElem?_map, hk]; exact congrArg some ((S.o 2).mpr rfl)), end_nat S]
      split at h
      · rename_i e rows' he hr
        cases h
        rw [he, spared_nat ts r _ hr]
        dsimp only
        rw [row_nat S]; rfl
      · cases h
    · rw [if_neg hk] at h
      rw [if_neg (fun z => hk (by
        rw [List.getElem?_map] at z
        obtain ⟨a, ha, hb⟩ := Option.map_eq_some_iff.mp z
        rw [ha, (S.o a).mp hb]))]
      exact spared_nat ts r rows h
end
end Mine

end
section
open PySem PySem.W PyProof.Rows PySem.Calls PySem.Spec
namespace Mine
def Tree.nl : Tree → Nat
  | .leaf _ => 1
  | .node _ a b => a.nl + b.nl
def Tree.leaves : Tree → List Str
  | .leaf x => [x]
  | .node _ a b => a.leaves ++ b.leaves
theorem Tree.nl_pos : ∀ t : Tree, 1 ≤ t.nl
  | .leaf _ => Nat.le_refl _
  | .node _ a b => Nat.le_trans (Tree.nl_pos a) (Nat.le_add_right _ _)
theorem Tree.leaves_len : ∀ t : Tree, t.leaves.length = t.nl
  | .leaf _ => rfl
  | .node _ a b => by show (a.leaves ++ b.leaves).length = _; rw [List.length_append, Tree.leaves_len a, Tree.leaves_len b]; rfl
theorem Tree.depth_lt : ∀ t : Tree, t.depth < t.nl
  | .leaf _ => Nat.lt_succ_self _
  | .node _ a b => by
    have h1 := Tree.depth_lt a
    have h2 := Tree.depth_lt b
    show max a.depth b.depth + 1 < a.nl + b.nl
    omega
theorem Tree.leaves_ok : ∀ t : Tree, t.Ok → ∀ x ∈ t.leaves, LeafOk x
  | .leaf _, h, x, hx => by cases List.mem_singleton.mp hx; exact h
  | .node _ a b, h, x, hx => by
    rcases List.mem_append.mp hx with hx | hx
    · exact Tree.leaves_ok a h.2.1 x hx
    · exact Tree.leaves_ok b h.2.2 x hx
def skel : Tree → Nat → NT
  | .leaf _, s => .leaf s
  | .node sg a b, s => .node (if sg = sM then 0 else 1) (skel a s) (skel b (s + a.nl))
theorem skel_mem : ∀ (t : Tree) (f s : Nat), t.nl ≤ f → skel t s ∈ shapes f t.nl s
  | .leaf _, f, s, h => by
    cases f with
    | zero => exact absurd (show (1 : Nat) ≤ 0 from h) (by decide)
    | succ f => show NT.leaf s ∈ shapes (f + 1) 1 s; rw [shapes, if_pos rfl]; exact List.mem_singleton.mpr rfl
  | .node sg a b, f, s, h => by
    have ha := Tree.nl_pos a
    have hb := Tree.nl_pos b
    have h' : a.nl + b.nl ≤ f := h
    cases f with
    | zero => omega
    | succ f =>
      show NT.node _ _ _ ∈ shapes (f + 1) (a.nl + b.nl) s
      rw [shapes, if_neg (by omega)]
      refine List.mem_flatMap.mpr ⟨a.nl - 1, List.mem_range.mpr (by omega), List.mem_flatMap.mpr ⟨skel a s, ?_, List.mem_flatMap.mpr ⟨skel b (s + a.nl), ?_, ?_⟩⟩⟩
      · rw [show a.nl - 1 + 1 = a.nl by omega]; exact skel_mem a f s (by omega)
      · rw [show a.nl - 1 + 1 = a.nl by omega, show a.nl + b.nl - a.nl = b.nl by omega]; exact skel_mem b f _ (by omega)
      · by_cases hs : sg = sM
        · rw [if_pos hs]; exact List.mem_cons_self ..
        · rw [if_neg hs]; exact List.mem_cons_of_mem _ (List.mem_cons_self ..)
def sig (full : List Str) : Nat → Str
  | 0 => sM
  | 1 => sD
  | 2 => sO
  | 3 => sC
  | n + 4 => full.getD n (Str.ofString "a")
theorem a_ok : LeafOk (Str.ofString "a") := by
  refine ⟨.inl ⟨97, by decide +kernel, by decide, by decide, by decide⟩, by decide +kernel, by decide +kernel, by decide +kernel, by decide +kernel⟩
theorem sig_leaf {full : List Str} (h : ∀ x ∈ full, LeafOk x) (n : Nat) : LeafOk (full.getD n (Str.ofString "a")) := by
  rw [List.getD_eq_getElem?_getD]
  cases e : full[n]? with
  | none => exact a_ok
  | some x => exact h x (List.mem_of_getElem? e)
theorem sig_ok {full : List Str} (h : ∀ x ∈ full, LeafOk x) : Sig (sig full) := by
  constructor
  · intro n
    match n with
    | 0 => exact ⟨fun _ => rfl, fun _ => rfl⟩
    | 1 => exact ⟨fun z => absurd (show sD = sM from z) (by decide +kernel), fun z => by cases z⟩
    | 2 => exact ⟨fun z => absurd (show sO = sM from z) (by decide +kernel), fun z => by cases z⟩
    | 3 => exact ⟨fun z => absurd (show sC = sM from z) (by decide +kernel), fun z => by cases z⟩
    | n + 4 => exact ⟨fun z => absurd z (sig_leaf h n).2.1, fun z => by omega⟩
  · intro n
    match n with
    | 0 => exact ⟨fun z => absurd (show sM = sD from z) (by decide +kernel), fun z => by cases z⟩
    | 1 => exact ⟨fun _ => rfl, fun _ => rfl⟩
    | 2 => exact ⟨fun z => absurd (show sO = sD from z) (by decide +kernel), fun z => by cases z⟩
    | 3 => exact ⟨fun z => absurd (show sC = sD from z) (by decide +kernel), fun z => by cases z⟩
    | n + 4 => exact ⟨fun z => absurd z (sig_leaf h n).2.2.1, fun z => by omega⟩
  · intro n
    match n with
    | 0 => exact ⟨fun z => absurd (show sM = sO from z) (by decide +kernel), fun z => by cases z⟩
    | 1 => exact ⟨fun z => absurd (show sD = sO from z) (by decide +kernel), fun z => by cases z⟩
    | 2 => exact ⟨fun _ => rfl, fun _ => rfl⟩
    | 3 => exact ⟨fun z => absurd (show sC = sO from z) (by decide +kernel), fun z => by cases z⟩
    | n + 4 => exact ⟨fun z => absurd z (sig_leaf h n).2.2.2.1, fun z => by omega⟩
  · intro n
    match n with
    | 0 => exact ⟨fun z => absurd (show sM = sC from z) (by decide +kernel), fun z => by cases z⟩
    | 1 => exact ⟨fun z => absurd (show sD = sC from z) (by decide +kernel), fun z => by cases z⟩
    | 2 => exact ⟨fun z => absurd (show sO = sC from z) (by decide +kernel), fun z => by cases z⟩
    | 3 => exact ⟨fun _ => rfl, fun _ => rfl⟩
    | n + 4 => exact ⟨fun z => absurd z (sig_leaf h n).2.2.2.2, fun z => by omega⟩
theorem skel_tree : ∀ (t : Tree) (pre post : List Str), t.Ok → (skel t (pre.length + 4)).tree (sig (pre ++ t.leaves ++ post)) = t
  | .leaf x, pre, post, _ => by
    show Tree.leaf ((pre ++ [x] ++ post).getD pre.length _) = _
    rw [List.getD_eq_getElem?_getD, List.append_assoc, List.getElem?_append_right (Nat.le_refl _), Nat.sub_self]; rfl
  | .node sg a b, pre, post, h => by
    have ea := skel_tree a pre (b.leaves ++ post) h.2.1
    have eb := skel_tree b (pre ++ a.leaves) post h.2.2
    have e1 : pre ++ a.leaves ++ (b.leaves ++ post) = pre ++ (Tree.node sg a b).leaves ++ post := by
      show _ = pre ++ (a.leaves ++ b.leaves) ++ post
      simp only [List.append_assoc]
    have e2 : pre ++ a.leaves ++ b.leaves ++ post = pre ++ (Tree.node sg a b).leaves ++ post := by
      show _ = pre ++ (a.leaves ++ b.leaves) ++ post
      simp only [List.append_assoc]
    rw [e1] at ea
    rw [e2, List.length_append, Tree.leaves_len, show pre.length + a.nl + 4 = pre.length + 4 + a.nl by omega] at eb
    show Tree.node (sig _ (if sg = sM then 0 else 1)) ((skel a _).tree _) ((skel b _).tree _) = _
    rw [ea, eb]
    congr 1
    rcases h.1 with rfl | rfl
    · rw [if_pos rfl]; rfl
    · rw [if_neg (by decide +kernel)]; rfl
theorem sig_unit {full : List Str} (h : ∀ x ∈ full, LeafOk x) : ∀ n, UnitOk (sig full n)
  | 0 => .inl ⟨45, sM_is, by decide, by decide, by decide⟩
  | 1 => .inl ⟨47, sD_is, by decide, by decide, by decide⟩
  | 2 => .inl ⟨40, sO_is, by decide, by decide, by decide⟩
  | 3 => .inl ⟨41, sC_is, by decide, by decide, by decide⟩
  | n + 4 => (sig_leaf h n).1

structure RowOk (row : List Str) : Prop where
  both : ∃ t, readO 12 row = some t ∧ frontO row = some t ∧ t.Ok ∧ t.depth ≤ 64
  len : row.length ≤ 100
  unit : ∀ t ∈ row, UnitOk t
structure PlainOk (tr : Tree) : Prop where
  read : readO 12 (toks tr) = some tr
  len : (toks tr).length ≤ 100
  unit : ∀ t ∈ toks tr, UnitOk t
  spared : ∃ rows, sparedO (toks tr) = some rows ∧ rows.length ≤ 100 ∧ ∀ row ∈ rows, RowOk row
theorem rowN_len {ts : List Nat} {k e : Nat} : (rowN ts k e).length ≤ 2 * ts.length + 0 + ts.length := by
  unfold rowN
  simp only [List.length_append, List.length_take, List.length_drop]
  have h1 : min k ts.length ≤ ts.length := Nat.min_le_right _ _
  have h2 : min (e - (k + 1)) (ts.length - (k + 1)) ≤ ts.length := Nat.le_trans (Nat.min_le_right _ _) (Nat.sub_le _ _)
  have h3 : ts.length - (e + 1) ≤ ts.length := Nat.sub_le _ _
  generalize min k ts.length = x1 at *
  generalize min (e - (k + 1)) (ts.length - (k + 1)) = x2 at *
  generalize ts.length - (e + 1) = x3 at *
  omega
theorem sparedN_len {ts : List Nat} : ∀ (l : List Nat) (rows : List (List Nat)), sparedFromN ts l = some rows → rows.length ≤ l.length ∧ ∀ row ∈ rows, row.length ≤ 3 * ts.length
  | [], rows, h => by cases h; exact ⟨Nat.le_refl _, fun _ h => by cases h⟩
  | k :: r, rows, h => by
    rw [sparedFromN] at h
    split at h
    · split at h
      · rename_i e rows' he hr
        cases h
        obtain ⟨h1, h2⟩ := sparedN_len r rows' hr
        refine ⟨Nat.succ_le_succ h1, fun row hrow => ?_⟩
        rcases List.mem_cons.mp hrow with rfl | hrow
        · have := rowN_len (ts := ts) (k := k) (e := e); omega
        · exact h2 row hrow
      · cases h
    · obtain ⟨h1, h2⟩ := sparedN_len r rows h
      exact ⟨Nat.le_succ_of_le h1, h2⟩
theorem depthN_eq {σ : Nat → Str} : ∀ (t : NT), (t.tree σ).depth = depthN t
  | .leaf _ => rfl
  | .node _ a b => by show max (a.tree σ).depth (b.tree σ).depth + 1 = _; rw [depthN_eq a, depthN_eq b]; rfl
theorem okN_ok {full : List Str} (h : ∀ x ∈ full, LeafOk x) : ∀ (t : NT), okN t = true → (t.tree (sig full)).Ok
  | .leaf n, ht => by
    have h4 : 4 ≤ n := of_decide_eq_true ht
    obtain ⟨k, rfl⟩ : ∃ k, n = k + 4 := ⟨n - 4, by omega⟩
    exact sig_leaf h k
  | .node sg a b, ht => by
    have ht' : (decide (sg < 2) && okN a && okN b) = true := ht
    rw [Bool.and_eq_true, Bool.and_eq_true] at ht'
    refine ⟨?_, okN_ok h a ht'.1.2, okN_ok h b ht'.2⟩
    match sg, of_decide_eq_true ht'.1.1 with
    | 0, _ => exact .inl rfl
    | 1, _ => exact .inr rfl
theorem plain_of {t : NT} {full : List Str} (h : ∀ x ∈ full, LeafOk x) (hc : checkN t = true) (hl : (toksN t).length ≤ 30) : PlainOk (t.tree (sig full)) := by
  have S := sig_ok h
  unfold checkN at hc
  rw [Bool.and_eq_true, Bool.and_eq_true] at hc
  obtain ⟨⟨h1, h2⟩, h3⟩ := hc
  have h1 := isN_eq h1
  have et := toks_nat S t
  refine ⟨by rw [et]; exact read_nat S _ _ _ h1, by rw [et, List.length_map]; omega, fun x hx => ?_, ?_⟩
  · rw [et] at hx
    obtain ⟨n, _, rfl⟩ := List.mem_map.mp hx
    exact sig_unit h n
  · split at h3
    · rename_i rows hr
      obtain ⟨q1, q2⟩ := sparedN_len _ _ hr
      rw [List.length_range] at q1
      refine ⟨rows.map (List.map (sig full)), ?_, by rw [List.length_map]; omega, fun row hrow => ?_⟩
      · unfold sparedO
        rw [et, List.length_map]
        exact spared_nat S _ _ _ hr
      · obtain ⟨rn, hrn, rfl⟩ := List.mem_map.mp hrow
        have hok := List.all_eq_true.mp h3 rn hrn
        unfold rowOkN at hok
        split at hok
        · rename_i a b ha hb
          rw [Bool.and_eq_true, Bool.and_eq_true] at hok
          have := eqN_eq _ _ hok.1.1
          subst this
          refine ⟨⟨_, read_nat S _ _ _ ha, front_nat S hb, okN_ok h a hok.1.2, by rw [depthN_eq]; exact of_decide_eq_true hok.2⟩, by rw [List.length_map]; have := q2 rn hrn; omega, fun x hx => ?_⟩
          obtain ⟨n, _, rfl⟩ := List.mem_map.mp hx
          exact sig_unit h n
        · cases hok
    · cases h3
def lenN (t : NT) : Bool := decide ((toksN t).length ≤ 30)
theorem len3 : (shapes 5 3 4).all lenN = true := by decide +kernel
theorem len4 : (shapes 5 4 4).all lenN = true := by decide +kernel
theorem len5 : (shapes 5 5 4).all lenN = true := by decide +kernel
theorem plain_ok {tr : Tree} (hok : tr.Ok) (hn : tr.nl = 3 ∨ tr.nl = 4 ∨ tr.nl = 5) : PlainOk tr := by
  have e := skel_tree tr [] [] hok
  rw [List.nil_append, List.append_nil] at e
  rw [← e]
  have hm := skel_mem tr 5 4 (by omega)
  have hlv := Tree.leaves_ok tr hok
  rcases hn with h | h | h
  · rw [h] at hm
    exact plain_of hlv (List.all_eq_true.mp check3 _ hm) (of_decide_eq_true (List.all_eq_true.mp len3 _ hm))
  · rw [h] at hm
    exact plain_of hlv (List.all_eq_true.mp check4 _ hm) (of_decide_eq_true (List.all_eq_true.mp len4 _ hm))
  · rw [h] at hm
    exact plain_of hlv (List.all_eq_true.mp check5 _ hm) (of_decide_eq_true (List.all_eq_true.mp len5 _ hm))
end Mine

end
section
open PySem PySem.W PyProof.Rows PySem.Calls PySem.Spec
namespace Mine
def Tree.data : Tree → PyData
  | .leaf x => .str x
  | .node sg a b => .list [.str sg, a.data, b.data]
theorem reads_tree {S : Addr → Prop} {h : Heap} : ∀ {tr : Tree} {v : Value}, TreeAt S h tr v → ∃ as, Reads h v tr.data as
  | .leaf x, _, ⟨t, rfl⟩ => ⟨[], Reads.str x t⟩
  | .node sg a b, _, ⟨l, t, va, vb, n, rfl, _, h3, h4, h5⟩ => by
    obtain ⟨as, ha⟩ := reads_tree h4
    obtain ⟨bs, hb⟩ := reads_tree h5
    exact ⟨_, reads_list_at h3 rfl rfl (.cons (Reads.str sg t) (.cons ha (.cons hb .nil)))⟩
theorem unit_strOk {x : Str} (h : UnitOk x) : PyData.strOk x = true := by
  rcases h with ⟨d, rfl, h1, _⟩ | ⟨d, rfl, h1, _⟩
  · show (#[d] : Array Nat).all _ = true
    simp only [Array.all_eq_true_iff_forall_mem, List.mem_toArray, List.mem_singleton, forall_eq, decide_eq_true_eq]; omega
  · show (#[92, d] : Array Nat).all _ = true
    rw [Array.all_eq_true_iff_forall_mem]
    intro y hy
    have : y = 92 ∨ y = d := by simpa using hy
    rcases this with rfl | rfl
    · decide
    · exact decide_eq_true (by omega)
theorem canLay_tree : ∀ {tr : Tree}, tr.Ok → tr.data.canLay0 = true
  | .leaf x, h => unit_strOk h.1
  | .node sg a b, h => by
    have hs : PyData.strOk sg = true := by rcases h.1 with rfl | rfl <;> decide +kernel
    show PyData.canLayAll0 [.str sg, a.data, b.data] = true
    simp only [PyData.canLayAll0, canLay_tree h.2.1, canLay_tree h.2.2, Bool.and_true]
    exact hs
theorem depth_tree : ∀ {tr : Tree}, tr.data.depth ≤ tr.depth
  | .leaf x => Nat.le_refl _
  | .node sg a b => by
    have h1 := depth_tree (tr := a)
    have h2 := depth_tree (tr := b)
    show PyData.depthAll [.str sg, a.data, b.data] + 1 ≤ max a.depth b.depth + 1
    simp only [PyData.depthAll, PyData.depth]
    omega
theorem shaped_tree {tr : Tree} (h : tr.Ok) (hd : tr.depth ≤ 64) : SeqAt.shaped tr.data = true := by
  unfold SeqAt.shaped
  rw [canLay_tree h, Bool.true_and]
  exact decide_eq_true (Nat.le_trans depth_tree hd)
section
variable {prog : Program} {w : World} {A : Around} {E : Value → Shared → Prop} {s : Shared} {h₀ : Heap} {L : Addr} {m : Str → Option Value} {news news' : List (Addr × Obj)} {value slice : Expr}
theorem ne_tree {S S' : Addr → Prop} {tr : Tree} {a b : Value} {d : Nat} {Q : Value → Shared → Prop} (h1 : TreeAt S s.heap tr a) (h2 : TreeAt S' s.heap tr b) (ho : tr.Ok) (hd : tr.depth ≤ 64) (r : Rm A (d + 4)) (h : Q (.bool false) s) :
    wpAny (model prog w) A (compareOp .NotEq a b) Q E s := by
  obtain ⟨as, r1⟩ := reads_tree h1
  obtain ⟨bs, r2⟩ := reads_tree h2
  have sh := shaped_tree ho hd
  refine ne_dataH r1 r2 sh sh ?_ ?_
  · have := r.units; show A.units + 64 < 9900; omega
  · rw [SeqAt.eqv_refl _ (canLay_tree ho)]; exact h
theorem str_join_flat : ∀ ts : List Str, (Str.join (Str.ofString "") ts).cps.toList = flat ts
  | [] => rfl
  | [x] => by
    show x.cps.toList = flat [x]
    rw [flat_cons]; show _ = _ ++ []; rw [List.append_nil]
  | x :: y :: r => by
    have ih := str_join_flat (y :: r)
    show ((x ++ Str.ofString "" ++ Str.join (Str.ofString "") (y :: r)).cps).toList = flat (x :: y :: r)
    have e : Str.ofString "" = ⟨#[]⟩ := by decide +kernel
    rw [flat_cons, ← ih, e]
    show ((x.cps ++ #[]) ++ _).toList = _
    rw [Array.append_empty, Array.toList_append, ← e]
theorem join_text (ts : List Str) : Txt.join (Str.ofString "") ts = text ts := by
  have e := eq_of_beq (join_closes (sep := Str.ofString "") (sep' := Str.ofString "") (ys := ts) rfl)
  rw [e]
  apply Str.ext'
  apply Array.toList_inj.mp
  rw [str_join_flat, text_list]
theorem join_LG {l : Addr} {xs : List Value} {ts : List Str} {n : Nat} {t : Tok} {Q : Value → Shared → Prop} (hl : LAt s.heap l xs n) (hi : StrsAre xs ts) (hu : ∀ t ∈ ts, UnitOk t) (hlen : ts.length ≤ 100) (h : ∀ t' k, Q (.str (text ts) t') { s with toks := k }) :
    wpAny (model prog w) A (call (.builtin "str.join") [.str (Str.ofString "") t, .ref l]) Q E s := by
  refine join_list hl.isList hi ?_ fun t' k => by rw [join_text]; exact h t' k
  have e : (Str.ofString "").length = 0 := by decide +kernel
  rw [e, Nat.mul_zero, Nat.add_zero]
  have : ∀ us : List Str, (∀ t ∈ us, UnitOk t) → (us.map (·.length)).sum ≤ 2 * us.length := by
    intro us
    induction us with
    | nil => intro _; exact Nat.le_refl _
    | cons u r ih =>
      intro hus
      have := ih fun t ht => hus t (List.mem_cons_of_mem _ ht)
      rw [List.map_cons, List.sum_cons, List.length_cons]
      have hul : u.length ≤ 2 := by
        rcases hus u (List.mem_cons_self ..) with ⟨d, rfl, _⟩ | ⟨d, rfl, _⟩
        · exact (by decide : 1 ≤ 2)
        · exact Nat.le_refl 2
      omega
  have := this ts hu
  omega
theorem mod_nat {a b : Int} {t u : Tok} {Q : Value → Shared → Prop} (hb : 0 < b) (h : ∀ (j : Nat) t' k, (j : Int) < b → Q (.int (j : Int) t') { s with toks := k }) : wpAny (model prog w) A (binaryOp .Mod (.int a t) (.int b u)) Q E s := by
  refine mod_int (by omega) ?_
  have h1 := Int.fmod_nonneg_of_pos a hb
  have h2 := Int.fmod_lt_of_pos a hb
  obtain ⟨j, hj⟩ := Int.eq_ofNat_of_zero_le h1
  rw [hj] at h2 ⊢
  exact h j _ _ h2
theorem tup_int {l : Addr} {xs : List Value} {j : Nat} {u : Tok} {Q : Value → Shared → Prop} (N : News h₀ L s.heap news) (hm : (l, { cls := .type "tuple", data := .seq xs.toArray }) ∈ news) (hj : j < xs.length) (hz : xs.length < 100) (hx : ∀ v ∈ xs, ∃ n t, v = .int n t) (h : ∀ n t, Q (.int n t) s)
    (hs : subscripted slice false (.ref l) (.int (j : Int) u) = operate [.ref l, .int (j : Int) u] (getItem (.ref l) (.int (j : Int) u))) (hg : ∀ r, letTemporaryGo value (.ref l) r = pure ()) :
    wpAny (model prog w) A (subscriptTail value slice (.ref l) (.int (j : Int) u)) Q E s := by
  obtain ⟨n, t, e⟩ := hx xs[j] (List.getElem_mem hj)
  exact item_tupleL (News.isTup N hm) (by omega) (by omega) (StrLaws.seqIndex_nonneg (by omega) (by omega)) (by rw [Int.toNat_natCast, List.getElem?_eq_getElem hj, e]) (h n t) hs hg
theorem tup_str {l : Addr} {xs : List Value} {j : Nat} {u : Tok} {Q : Value → Shared → Prop} (N : News h₀ L s.heap news) (hm : (l, { cls := .type "tuple", data := .seq xs.toArray }) ∈ news) (hj : j < xs.length) (hz : xs.length < 100) (hx : ∀ v ∈ xs, ∃ x t, v = .str x t ∧ LeafOk x) (h : ∀ x t, LeafOk x → Q (.str x t) s)
    (hs : subscripted slice false (.ref l) (.int (j : Int) u) = operate [.ref l, .int (j : Int) u] (getItem (.ref l) (.int (j : Int) u))) (hg : ∀ r, letTemporaryGo value (.ref l) r = pure ()) :
    wpAny (model prog w) A (subscriptTail value slice (.ref l) (.int (j : Int) u)) Q E s := by
  obtain ⟨n, t, e, ho⟩ := hx xs[j] (List.getElem_mem hj)
  exact item_tupleL (News.isTup N hm) (by omega) (by omega) (StrLaws.seqIndex_nonneg (by omega) (by omega)) (by rw [Int.toNat_natCast, List.getElem?_eq_getElem hj, e]) (h n t ho) hs hg
theorem sign_item {j : Nat} {t u : Tok} {Q : Value → Shared → Prop} (hj : (j : Int) < 2) (h : ∀ sg t' k, (sg = sM ∨ sg = sD) → Q (.str sg t') { s with toks := k })
    (hs : subscripted slice false (.str (Str.ofString "-/") t) (.int (j : Int) u) = operate [.str (Str.ofString "-/") t, .int (j : Int) u] (getItem (.str (Str.ofString "-/") t) (.int (j : Int) u)))
    (ht : ∀ r, letTemporaryGo value (.str (Str.ofString "-/") t) r = pure ()) :
    wpAny (model prog w) A (subscriptTail value slice (.str (Str.ofString "-/") t) (.int (j : Int) u)) Q E s := by
  have hl : (Str.ofString "-/").length = 2 := by decide +kernel
  have hi : Txt.item (Str.ofString "-/") (j : Int) = sM ∨ Txt.item (Str.ofString "-/") (j : Int) = sD := by
    match j, hj with
    | 0, _ => exact .inl (by decide +kernel)
    | 1, _ => exact .inr (by decide +kernel)
    | n + 2, h => omega
  exact item_str (fitsSsize_of (N := 9223372036854775808) (by omega) (by omega) (Int.le_refl _)) (by rw [hl]; omega) (by rw [hl]; omega) (fun _ => h _ _ _ hi) hs ht
theorem slice3_LG {l : Addr} {xs : List Value} {n : Nat} {vl vu vk : Value} {lo hi st : Option Int} {ops : List Value} {Q : Value → Shared → Prop} (F : Fr h₀ L s.heap m) (N : News h₀ L s.heap news) (hl : LAt s.heap l xs n) (pl : IsPart vl lo) (pu : IsPart vu hi) (pk : IsPart vk st) (h0 : st ≠ some 0)
    (h : ∀ D h', Fr h₀ L h' m → News h₀ L h' ((D, PySem.W.listOf (slicePick xs.toArray lo hi st).toList.toArray 0) :: news) → (∀ p ∈ news, p.1 < D) → Above L D news → Q (.ref D) { s with heap := h' })
    (hz : xs.length ≤ sizeLine)
    (hs : subscripted slice false (.ref l) (.ref s.heap.objs.size) = operate ops (getItem (.ref l) (.ref s.heap.objs.size))) (ht : ∀ r, letTemporaryGo value (.ref l) r = pure ()) :
    wpAny (model prog w) A (subscriptTail value slice (.ref l) (.ref s.heap.objs.size)) Q E { s with heap := s.heap.push { cls := .type "slice", data := .fields #[vl, vu, vk] } } := by
  refine slice_list3 F N hl.isList pl pu pk h0 (fun h' F' N' => ?_) hs ht (by rw [List.size_toArray]; exact hz)
  exact h _ h' F' (by rw [Array.toArray_toList]; exact N') (fun p hp => Nat.lt_succ_of_lt (Heap.lt_size (N p hp).1)) ⟨Nat.lt_succ_of_lt F.ns.lt, fun p hp => Nat.lt_succ_of_lt (Heap.lt_size (N p hp).1)⟩
theorem sum_LG {l : Addr} {xs : List Value} {ns : List Int} {n : Nat} {Q : Value → Shared → Prop} (hh : A.handled = none) (F : Fr h₀ L s.heap m) (N : News h₀ L s.heap news) (hl : LAt s.heap l xs n) (hi : IntsAre xs ns)
    (h : ∀ v t h' tk, Fr h₀ L h' m → News h₀ L h' news → Q (.int v t) { s with heap := h', toks := tk }) : wpAny (model prog w) A (call (.builtin "sum") [.ref l]) Q E s := by
  refine call_sum_walkG (wpAny_pyIter_list hl.isList ⟨s.heap.objs.size, _, _, _, _, _, fun i => ns.getD i 0, rfl, Walks.list (A := A.in1) hh s.heap.objs.size l (Nat.ne_of_lt (Heap.lt_size hl)) xs.toArray, ⟨⟨_, Heap.get?_push_size _ rfl, rfl, rfl⟩, hl.isList.push _⟩, fun b hb => ?_, fun i v hv => ?_, fun h' tk t' k => ?_⟩)
  · rw [Heap.size_push]
    rcases List.mem_cons.mp hb with rfl | hb
    · exact Nat.lt_succ_self _
    · cases List.mem_singleton.mp hb; exact Nat.lt_succ_of_lt (Heap.lt_size hl)
  · rw [List.getElem?_toArray] at hv
    obtain ⟨k, t, rfl, e⟩ := hi.at i v hv
    exact ⟨t, by show _ = Value.int (ns.getD i 0) t; rw [List.getD_eq_getElem?_getD, e]; rfl⟩
  · have k' : ∀ b o, s.heap.get? b = some o → h'.get? b = some o := fun b o e => k b o (by simp only [List.mem_singleton]; exact Nat.ne_of_lt (Heap.lt_size e)) (Heap.get?_push_of_some _ e)
    exact h _ _ h' tk ⟨F.ns.keeps k', fun b o e => k' b o (F.keep b o e), F.above⟩ fun p hp => ⟨k' _ _ (N p hp).1, (N p hp).2⟩
theorem item_LI {l : Addr} {xs : List Value} {y : Value} {n i : Nat} {k : Int} {u : Tok} {Q : Value → Shared → Prop} (hl : LAt s.heap l xs n) (hk : k = (i : Int)) (hi : xs[i]? = some y) (hfit : i < 2 ^ 62) (h : Q y s)
    (hs : subscripted slice false (.ref l) (.int k u) = operate [.ref l, .int k u] (getItem (.ref l) (.int k u))) (hg : ∀ r, letTemporaryGo value (.ref l) r = pure ()) :
    wpAny (model prog w) A (subscriptTail value slice (.ref l) (.int k u)) Q E s := by
  subst hk
  exact item_LG hl hi hfit h hs hg
end

theorem paired_all {α β : Type} {F : α → β → Prop} {vs : List α} {ys : List β} (h : Paired F vs ys) : ∀ y ∈ ys, ∃ v, F v y := by
  induction h with
  | nil => intro y hy; cases hy
  | cons e _ ih => intro y hy; rcases List.mem_cons.mp hy with rfl | hy; exact ⟨_, e⟩; exact ih y hy
theorem paired_len {α β : Type} {F : α → β → Prop} {vs : List α} {ys : List β} (h : Paired F vs ys) : ys.length = vs.length := by
  induction h with
  | nil => rfl
  | cons e _ ih => rw [List.length_cons, List.length_cons, ih]
theorem filter_all {α : Type} : ∀ l : List α, l.filter (fun _ => true) = l
  | [] => rfl
  | a :: r => by rw [List.filter_cons, if_pos rfl, filter_all r]
section
variable {prog : Program} {w : World} {A : Around} {E : Value → Shared → Prop} {s : Shared} {h₀ : Heap} {L : Addr} {m : Str → Option Value} {news news' : List (Addr × Obj)} {value slice : Expr}
theorem item_LE {l : Addr} {xs : List Value} {n : Nat} {k : Int} {u : Tok} {Q : Value → Shared → Prop} (hl : LAt s.heap l xs n) (h0 : 0 ≤ k) (h1 : k < xs.length) (hfit : xs.length < 2 ^ 62) (h : ∀ y, xs[k.toNat]? = some y → Q y s)
    (hs : subscripted slice false (.ref l) (.int k u) = operate [.ref l, .int k u] (getItem (.ref l) (.int k u))) (hg : ∀ r, letTemporaryGo value (.ref l) r = pure ()) :
    wpAny (model prog w) A (subscriptTail value slice (.ref l) (.int k u)) Q E s := by
  have hlt : k.toNat < xs.length := by omega
  exact item_listL hl.isList h0 (by omega) (by rw [List.getElem?_eq_getElem hlt] ) (h _ (List.getElem?_eq_getElem hlt)) hs hg
end
/-- the pile of the law's trees between two turns -/
structure TJ (s : Shared) (L I ax N : Nat) (i : Nat) (m' : Str → Option Value) (s' : Shared) : Prop where
  ex : ∃ T lvs nT trs, m' (Str.ofString "trees") = some (.ref T) ∧ LAt s'.heap T lvs nT ∧ TreesAre (fun b => L < (b : Nat) ∧ (b : Nat) ≠ I) s'.heap lvs trs ∧ (∀ t ∈ trs, t.Ok) ∧ trs.length + i = N ∧ (trs.map Tree.nl).sum = N ∧ L < T ∧ T ≠ I ∧ T ≠ ax
  gens : s'.gens = s.gens
  os : s'.os = s.os
theorem tj_join {S : Addr → Prop} {h : Heap} {lvs : List Value} {trs : List Tree} {j N i : Nat} {l : Addr} {sg : Str} {t : Tok} {y1 y2 : Value} {n : Nat} (ht : TreesAre S h lvs trs) (hok : ∀ t ∈ trs, t.Ok) (hj : (j : Int) < (lvs.length : Int) - 1) (hlen : trs.length + i = N) (hsum : (trs.map Tree.nl).sum = N)
    (h1 : lvs[(j : Int).toNat]? = some y1) (h2 : lvs[((j : Int) + 1).toNat]? = some y2) (hsg : sg = sM ∨ sg = sD) (hl : h.get? l = some (PySem.W.listOf #[.str sg t, y1, y2] n)) (hS : S l) :
    ∃ trs', TreesAre S h (kms_pick lvs none (some (j : Int)) ++ [Value.ref l] ++ kms_pick lvs (some ((j : Int) + 2)) none) trs' ∧ (∀ t ∈ trs', t.Ok) ∧ trs'.length + (i + 1) = N ∧ (trs'.map Tree.nl).sum = N := by
  have hln := ht.length
  have hj2 : j + 1 < trs.length := by omega
  rw [Int.toNat_natCast] at h1
  rw [show ((j : Int) + 1).toNat = j + 1 by omega] at h2
  obtain ⟨v1, e1, T1⟩ := ht.get j _ (List.getElem?_eq_getElem (show j < trs.length by omega))
  obtain ⟨v2, e2, T2⟩ := ht.get (j + 1) _ (List.getElem?_eq_getElem hj2)
  rw [h1] at e1; cases e1
  rw [h2] at e2; cases e2
  have ok1 := hok _ (List.getElem_mem (show j < trs.length by omega))
  have ok2 := hok _ (List.getElem_mem hj2)
  have hsplit : trs = trs.take j ++ trs[j] :: trs[j + 1] :: trs.drop (j + 2) := by
    rw [← List.drop_eq_getElem_cons hj2, ← List.drop_eq_getElem_cons (show j < trs.length by omega), List.take_append_drop]
  refine ⟨trs.take j ++ [.node sg trs[j] trs[j + 1]] ++ trs.drop (j + 2), ?_, ?_, ?_, ?_⟩
  · rw [pick_to lvs (by omega), show (j : Int) + 2 = ((j + 2 : Nat) : Int) by omega, pick_from]
    have hnode : TreeAt S h (.node sg trs[j] trs[j + 1]) (.ref l) := ⟨l, t, y1, y2, n, rfl, hS, hl, T1, T2⟩
    exact ((ht.take j).append (.cons hnode .nil)).append (ht.drop _)
  · intro t' ht'
    rcases List.mem_append.mp ht' with ht' | ht'
    · rcases List.mem_append.mp ht' with ht' | ht'
      · exact hok _ (List.mem_of_mem_take ht')
      · cases List.mem_singleton.mp ht'; exact ⟨hsg, ok1, ok2⟩
    · exact hok _ (List.mem_of_mem_drop ht')
  · simp only [List.length_append, List.length_take, List.length_drop, List.length_cons, List.length_nil]; omega
  · have := congrArg (fun l => (List.map Tree.nl l).sum) hsplit
    simp only [List.map_append, List.sum_append, List.map_cons, List.sum_cons, List.map_nil, List.sum_nil, Tree.nl] at this ⊢
    omega
theorem leaves_are {S : Addr → Prop} {h : Heap} : ∀ {ys : List Value}, (∀ y ∈ ys, ∃ x t, y = Value.str x t ∧ LeafOk x) → ∃ trs, TreesAre S h ys trs ∧ (∀ t ∈ trs, t.Ok) ∧ trs.length = ys.length ∧ (trs.map Tree.nl).sum = ys.length
  | [], _ => ⟨[], .nil, (fun _ h => nomatch h), rfl, rfl⟩
  | y :: r, h => by
    obtain ⟨x, t, rfl, hx⟩ := h y (List.mem_cons_self ..)
    obtain ⟨trs, h1, h2, h3, h4⟩ := leaves_are (S := S) (h := _) fun y hy => h y (List.mem_cons_of_mem _ hy)
    refine ⟨.leaf x :: trs, .cons (show TreeAt S _ (.leaf x) _ from ⟨t, rfl⟩) h1, fun t' ht' => ?_, by rw [List.length_cons, List.length_cons, h3], ?_⟩
    · rcases List.mem_cons.mp ht' with rfl | ht'
      · exact hx
      · exact h2 t' ht'
    · rw [List.map_cons, List.sum_cons, h4, List.length_cons]; show 1 + r.length = _; omega
theorem leaf_ok0 {x : Str} {d : Nat} (h : x = ⟨#[d]⟩ ∨ x = ⟨#[92, d]⟩) (h1 : d < 128) (h2 : d ≠ 34) (h3 : d ≠ 92) (h4 : x ≠ sM ∧ x ≠ sD ∧ x ≠ sO ∧ x ≠ sC) : LeafOk x :=
  ⟨h.elim (fun e => .inl ⟨d, e, h1, h2, h3⟩) (fun e => .inr ⟨d, e, h1, h2⟩), h4⟩
theorem leaf_ok1 (t1 t2 t3 t4 t5 t6 : Tok) : ∀ v ∈ [Value.str (Str.ofString "a") t1, .str (Str.ofString "\\(") t2, .str (Str.ofString "\\-") t3, .str (Str.ofString "b") t4, .str (Str.ofString "\\)") t5, .str (Str.ofString "\\/") t6], ∃ x t, v = Value.str x t ∧ LeafOk x := by
  intro v hv
  simp only [List.mem_cons, List.not_mem_nil, or_false] at hv
  rcases hv with rfl | rfl | rfl | rfl | rfl | rfl
  · exact ⟨_, _, rfl, leaf_ok0 (d := 97) (.inl (by decide +kernel)) (by decide) (by decide) (by decide) (by decide +kernel)⟩
  · exact ⟨_, _, rfl, leaf_ok0 (d := 40) (.inr (by decide +kernel)) (by decide) (by decide) (by decide) (by decide +kernel)⟩
  · exact ⟨_, _, rfl, leaf_ok0 (d := 45) (.inr (by decide +kernel)) (by decide) (by decide) (by decide) (by decide +kernel)⟩
  · exact ⟨_, _, rfl, leaf_ok0 (d := 98) (.inl (by decide +kernel)) (by decide) (by decide) (by decide) (by decide +kernel)⟩
  · exact ⟨_, _, rfl, leaf_ok0 (d := 41) (.inr (by decide +kernel)) (by decide) (by decide) (by decide) (by decide +kernel)⟩
  · exact ⟨_, _, rfl, leaf_ok0 (d := 47) (.inr (by decide +kernel)) (by decide) (by decide) (by decide) (by decide +kernel)⟩
theorem sign_of {j : Nat} (hj : (j : Int) < 2) : Txt.item (Str.ofString "-/") (j : Int) = sM ∨ Txt.item (Str.ofString "-/") (j : Int) = sD := by
  match j, hj with
  | 0, _ => exact .inl (by decide +kernel)
  | 1, _ => exact .inr (by decide +kernel)
  | n + 2, h => omega
theorem tj_turn {c : P0} {h₀ g : Heap} {L T I ax l ln : Addr} {s₁ s₀ : Shared} {m₁ m₂ : Str → Option Value} {lvs : List Value} {nT tk i j j2 NN : Nat} {trs : List Tree} {p q : Array Value} {fz news n1 n2 : List (Addr × Obj)} {h'' : Heap} {t : Tok} {y1 y2 : Value} {items : Array Value}
    (Z : Fn c h₀ g L) (P : Pt g L [(T, PySem.W.listOf lvs.toArray nT)] s₁.heap p q fz) (U : Full g L [(T, PySem.W.listOf lvs.toArray nT)] s₁.heap fz) (F₁ : Fr g L s₁.heap m₁) (st : s₁.heap.IsListIter I ax (i + 1) ∧ s₁.heap.IsList ax items)
    (LI : @LT.lt Nat _ L I) (La : @LT.lt Nat _ L ax) (LT' : @LT.lt Nat _ L T) (hTI : T ≠ I) (hTa : T ≠ ax) (a2 : LAt s₁.heap T lvs nT) (a3 : TreesAre (fun b => L < (b : Nat) ∧ (b : Nat) ≠ I) s₁.heap lvs trs) (a4 : ∀ t ∈ trs, t.Ok) (a5 : trs.length + i = NN) (a6 : (trs.map Tree.nl).sum = NN)
    (F : Fr g L h'' m₂) (N : News g L h'' news) (hs : ∀ x ∈ fz, x ∈ news) (h44 : (44, tabObj p) ∈ news) (h51 : (51, tabObj q) ∈ news) (hT : (T, PySem.W.listOf lvs.toArray nT) ∈ news)
    (hR : (l, PySem.W.listOf (kms_pick lvs none (some (j : Int)) ++ [Value.ref ln] ++ kms_pick lvs (some ((j : Int) + 2)) none).toArray 0) ∈ news) (hn : (ln, PySem.W.listOf #[.str (Txt.item (Str.ofString "-/") (j2 : Int)) t, y1, y2] 0) ∈ news)
    (Al : Above L l n1) (hs1 : ∀ x ∈ fz, x ∈ n1) (An : Above L ln n2) (hs2 : ∀ x ∈ fz, x ∈ n2) (e1 : m₂ (Str.ofString "trees") = some (.ref l))
    (hj : (j : Int) < (lvs.length : Int) - 1) (hy1 : lvs[(j : Int).toNat]? = some y1) (hy2 : lvs[((j : Int) + 1).toNat]? = some y2) (hj2 : (j2 : Int) < 2) (hg : s₁.gens = s₀.gens) (hos : s₁.os = s₀.os) :
    TurnW c g L (fun i h => h.IsListIter I ax i ∧ h.IsList ax items) (TJ s₀ L I ax NN) (i + 1) { s₁ with heap := h'', toks := tk } := by
  have k : ∀ (b : Addr) o, @LT.lt Nat _ L b → s₁.heap.get? b = some o → h''.get? b = some o := fun b o hb e => by
    have h51' : @LT.lt Nat _ 51 b := Nat.lt_of_lt_of_le c.lt (Nat.le_trans Z.tl (Nat.le_of_lt hb))
    by_cases hT' : b = T
    · subst hT'
      rw [show s₁.heap.get? b = _ from a2] at e; cases e
      exact (N _ hT).1
    · exact P.kept F N hs b o e (Nat.ne_of_gt hb) (Nat.ne_of_gt (Nat.lt_trans (by decide) h51')) (Nat.ne_of_gt h51') fun y hy => by cases List.mem_singleton.mp hy; exact hT'
  obtain ⟨⟨oi, hoi, ri⟩, ⟨oa, hoa, ra⟩⟩ := st
  have inf : ∀ (b : Addr) o, @LT.lt Nat _ L b → b ≠ T → s₁.heap.get? b = some o → (b, o) ∈ fz := fun b o hb hT' e => by
    have h51' : @LT.lt Nat _ 51 b := Nat.lt_of_lt_of_le c.lt (Nat.le_trans Z.tl (Nat.le_of_lt hb))
    exact U.all b o e (Nat.ne_of_gt hb) (Nat.ne_of_gt (Nat.lt_trans (by decide) h51')) (Nat.ne_of_gt h51') (fun y hy => by cases List.mem_singleton.mp hy; exact hT') (Heap.get?_none_of_le (Nat.le_trans F₁.above (Nat.le_of_lt hb)))
  have hI := inf _ _ LI (Ne.symm hTI) hoi
  have ha := inf _ _ La (Ne.symm hTa) hoa
  obtain ⟨trs', b1, b2, b3, b4⟩ := tj_join (h := h'') (a3.keeps fun b o hb e => k b o hb.1 e) a4 hj a5 a6 hy1 hy2 (sign_of hj2) (N _ hn).1 ⟨An.lt, Nat.ne_of_gt (An.all _ (hs2 _ hI))⟩
  exact ⟨⟨m₂, F, ⟨l, _, 0, trs', e1, (N _ hR).1, b1, b2, b3, b4, Al.lt, Nat.ne_of_gt (Al.all _ (hs1 _ hI)), Nat.ne_of_gt (Al.all _ (hs1 _ ha))⟩, hg, hos⟩, P.inv Z F N hs h44 h51, ⟨oi, k _ _ LI hoi, ri⟩, ⟨oa, k _ _ La hoa, ra⟩⟩
structure RJ (s : Shared) (L I : Nat) (rvs : List Value) (rows : List (List Str)) (i : Nat) (m' : Str → Option Value) (s' : Shared) : Prop where
  rows : RowsAre (fun b => L < (b : Nat) ∧ (b : Nat) ≠ I) s'.heap rvs rows
  gens : ∀ (i : Nat) (x : GenState), s.gens[i]? = some x → s'.gens[i]? = some x
  bare : AllBare s.gens → AllBare s'.gens
  os : s'.os = s.os
theorem after_stepA {c : P0} {h₀ g : Heap} {L : Addr} {s₁ s₂ : Shared} {m : Str → Option Value} {news : List (Addr × Obj)} (a : After c s₁ s₂) (own : List (Addr × Obj)) (Z : Fn c h₀ g L) (F : Fr g L s₁.heap m) (N : News g L s₁.heap news)
    (ho : ∀ x ∈ own, x ∈ news ∧ x.1 ≠ 44 ∧ x.1 ≠ 51 ∧ ¬ CodeLike x.2) :
    Fr g L s₂.heap m ∧ ∃ p q fz, News g L s₂.heap (own ++ (44, tabObj p) :: (51, tabObj q) :: fz) ∧ Pt g L own s₂.heap p q fz := after_step own Z F N ho a
theorem after_newA {c : P0} {h₀ g : Heap} {L : Addr} {s₁ s₂ : Shared} {m : Str → Option Value} {news : List (Addr × Obj)} (a : After c s₁ s₂) (own : List (Addr × Obj)) {f : Addr} {fo : Obj} (Z : Fn c h₀ g L) (F : Fr g L s₁.heap m) (N : News g L s₁.heap news)
    (ho : ∀ x ∈ own, x ∈ news ∧ x.1 ≠ 44 ∧ x.1 ≠ 51 ∧ ¬ CodeLike x.2) (hf : s₂.heap.get? f = some fo) (hL : L < f) (hn : ¬ CodeLike fo) :
    Fr g L s₂.heap m ∧ ∃ p q fz, News g L s₂.heap ((f, fo) :: own ++ (44, tabObj p) :: (51, tabObj q) :: fz) ∧ Pt g L ((f, fo) :: own) s₂.heap p q fz := after_new own Z F N ho a hf hL hn
theorem nm_fr {g h : Heap} {L : Addr} {m : Str → Option Value} (F9 : Fr g L h m) : ∃ x : Heap, x = h := ⟨h, rfl⟩
theorem nm_obj {o : Obj} {d : Data} (h9 : o.data = d) : ∃ x : Obj, x = o := ⟨o, rfl⟩
theorem nm_nat {j : Nat} {b : Int} (h9 : (j : Int) < b) : ∃ x : Nat, x = j := ⟨j, rfl⟩
theorem nm_above {L l : Addr} {news : List (Addr × Obj)} (h9 : Above L l news) : ∃ x : Addr, x = l := ⟨l, rfl⟩
end Mine

end
section
open PySem PySem.W PyProof.Rows PySem.Calls PySem.Spec
namespace Mine
theorem fillL2 : ∀ (w : World) (h : Heap), (hd.heap_39 w.params).In h → model PySem.Challenge.rw_ph0043_01.prog w = model PySem.Challenge.rw_ph0043_01.prog w := by
  k_fill
  intro w h _; rfl
set_option maxRecDepth 100000 in
set_option maxHeartbeats 4000000 in
theorem law_spec : ∀ (c : P0) (A : Around) (s : Shared) (l : Addr) (vs : List Value) (ns : List Int) (n : Nat), l ≠ 44 → l ≠ 51 → LAt s.heap l vs n → IntsAre vs ns → ns.length ≤ 63 → Inv c s.heap → Rm A 40 →
    Calls c A (.ref 87) [.ref l] s (fun v _ => v = .bool true) := by
  k_with_none
  k_with "m_inv" => exact Pt.inv (by assumption) (by assumption) (by k_asm) (by k_asm) (by walk_at "m_fz") (by walk_at "m_tab") (by walk_at "m_tab")
  k_with "m_at" => first | exact (News.get (by k_asm) (by k_mem)) | exact Fr.keep (by k_asm) _ _ (by assumption)
  k_with "m_room" => (rw [PySem.sizeLine_eq]; (try simp only [List.length_append, List.length_cons, List.length_nil, List.length_reverse]); omega)
  k_with "assign Tuple" => (k_here; (with_reducible show wpAny _ _ (assign (Expr.Tuple _ _ _) _ (Value.ref _)) _ _ _); k_dflt (refine' unpackN_ ?zqF ?zqN ?zqT ?zqk1 ?zqk2 ?zqk3 ?_; (case zqF => k_asm); (case zqN => k_asm); (case zqT => (refine News.isTup (by k_asm) (by k_mem))); (case zqk1 => exact Rm.handled (by assumption)); (case zqk2 => exact rfl); (case zqk3 => exact rfl)); intro _ _ _)
  k_with "assign Tuple" => (k_here; (with_reducible show wpAny _ _ (assign (Expr.Tuple _ _ _) _ (Value.ref _)) _ _ _); k_dflt (refine' kun_list ?zqk1 ?zqk2 ?zqk3 ?zqk4 ?zqk5 ?zqk6 ?_; (case zqk1 => k_asm); (case zqk2 => k_asm); (case zqk3 => is_list); (case zqk4 => exact Rm.handled (by assumption)); (case zqk5 => exact rfl); (case zqk6 => exact rfl); k_whole); intro _ _ _)
  k_with "unpackItems ref" => (k_here; k_dflt (refine' unpackItemsN_ ?zqk1 ?zqk2 ?zqk3 ?zqk4 ?zqk5 ?_; (case zqk1 => k_asm); (case zqk2 => k_asm); (case zqk3 => kun_tup); (case zqk4 => exact Rm.handled (by assumption)); (case zqk5 => exact rfl); k_whole); intro _ _ _; (try k_sweep))
  k_with "newList" => (k_here; k_dflt (refine' newList_A ?zqk1 ?zqk2 ?_; (case zqk1 => k_asm); (case zqk2 => k_asm); k_whole); walk_at "m_t6")
  k_with "binaryOp Add ref ref" => (k_here; (with_reducible show wpAny _ _ (binaryOp _ (Value.ref _) (Value.ref _)) _ _ _); k_dflt (refine' add_LG ?zqk1 ?zqk2 ?zqk3 ?zqk4 ?_ ?zqk5; (case zqk1 => k_asm); (case zqk2 => k_asm); (case zqk3 => walk_at "m_at"); (case zqk4 => walk_at "m_at"); (case zqk5 => walk_at "m_room"); k_whole); walk_at "m_t6")
  k_with "subscriptTail Name UnaryOp ref int" => (k_here; k_dflt (refine' last_LG ?zqk1 ?_ ?zqk2 ?zqk3; (case zqk1 => walk_at "m_at"); (case zqk2 => with_unfolding_all rfl); (case zqk3 => intro _; with_unfolding_all rfl)))
  k_with "call builtin:str.index" => (k_here; refine index_rank (by assumption) ?_; intro _ _)
  k_with "subscriptTail Name Slice ref ref" => (k_here; k_dflt (refine' slice_LG ?zqF ?zqN ?zql ?zqp ?zqq ?_ ?zqz ?zqs ?zqt; (case zqF => k_asm); (case zqN => k_asm); (case zql => walk_at "m_at"); (case zqp => first | exact IsPart.none | exact IsPart.int _ _); (case zqq => first | exact IsPart.none | exact IsPart.int _ _); (case zqz => walk_at "m_room"); (case zqs => with_unfolding_all rfl); (case zqt => intro _; with_unfolding_all rfl)); walk_at "m_t6")
  k_with "subscriptTail Name Constant ref int" => (k_here; (with_reducible show wpAny _ _ (subscriptTail _ _ (Value.ref _) (Value.int 0 _)) _ _ _); k_dflt (refine' item0_LG ?zqk1 ?_ ?zqk2 ?zqk3; (case zqk1 => walk_at "m_at"); (case zqk2 => with_unfolding_all rfl); (case zqk3 => intro _; with_unfolding_all rfl)))
  k_with "exec For" => (k_here; k_dflt (refine' wpAny_For ?_))
  k_with "exec While" => (k_here; with_reducible refine wpAny_While ?_)
  k_with "call builtin:list.append" => (k_here; k_dflt (refine' append_LG ?zqk1 ?zqk2 ?zqk3 ?zqk4 ?_; (case zqk1 => k_asm); (case zqk2 => k_asm); (case zqk3 => k_upd); (case zqk4 => walk_at "m_room"); k_whole); intro _ _ _)
  k_with "call builtin:list.pop" => (k_here; k_dflt (refine' pop_LG ?zqk1 ?zqk2 ?zqk3 ?zqk4 ?_; (case zqk1 => k_asm); (case zqk2 => k_asm); (case zqk3 => k_upd); (case zqk4 => walk_at "m_room"); k_whole); intro _ _ _)
  k_with "call builtin:len" => (k_here; (with_reducible show wpAny _ _ (call _ [Value.ref _]) _ _ _); k_dflt (refine' len_LG ?zqk1 ?zqk2 ?_; (case zqk1 => walk_at "m_at"); (case zqk2 => omega)); intro _ _)
  k_with "binaryOp Mod int int" => (k_here; k_dflt (refine' mod_nat ?zqk1 ?_; (case zqk1 => omega)); intro _ _ _ _)
  k_with "exec Assign cons ListComp" => (k_here; k_dflt (refine' Assign_compS ?zqsel ?zqsw ?zqclos ?zqcell ?zqkind ?zqnames ?zqhx ?zqhy ?zqhp ?zqhs ?_; (case zqsel => assumption); (case zqsw => with_unfolding_all rfl); (case zqclos => with_unfolding_all rfl); (case zqcell => decide); (case zqkind => rfl); (case zqnames => decide); (case zqhx => rfl); (case zqhy => rfl); (case zqhp => rfl); (case zqhs => intro _; rfl)))
  k_with "eval Name" => (k_here; (with_reducible show wpAny _ _ (eval (Expr.Name _ _) (compEnvC _ _ _ _)) _ _ _); k_dflt (first
     | (refine' nameC_g ?zqF ?zqc ?zqm ?zqd ?_ ?zqa ?zqb; (case zqa => rfl); (case zqb => rfl); (case zqF => k_asm); (case zqc => rfl); (case zqm => assumption); (case zqd => assumption); k_whole)
     | (refine' nameL_C ?zqF ?zqv ?_ ?zqa ?zqb ?zqd; (case zqa => rfl); (case zqb => rfl); (case zqd => decide); (case zqF => k_asm); (case zqv => rfl); k_whole)))
  k_with "call builtin:sum" => (k_here; k_dflt (refine' sum_LG ?zqhh ?zqF ?zqN ?zql ?zqi ?_; (case zqhh => exact Rm.handled (by assumption)); (case zqF => k_asm); (case zqN => k_asm); (case zql => walk_at "m_at"); (case zqi => exact IntsAre.pick (by assumption) _ _ _)); intro _ _ _ _ _ _)
  k_with "subscriptTail Tuple Name ref int" => (k_here; k_dflt (refine' tup_int ?zqN ?zqm ?zqj ?zqz ?zqx ?_ ?zqs ?zqg; (case zqN => k_asm); (case zqm => k_mem); (case zqj => (simp only [List.length_cons, List.length_nil]; omega)); (case zqz => (simp only [List.length_cons, List.length_nil]; omega)); (case zqx => (intro v hv; simp only [List.mem_cons, List.not_mem_nil, or_false] at hv; rcases hv with rfl | rfl | rfl | rfl | rfl <;> exact ⟨_, _, rfl⟩)); (case zqs => with_unfolding_all rfl); (case zqg => intro _; with_unfolding_all rfl)); intro _ _)
  k_with "subscriptTail Name Slice ref ref" => (k_here; k_dflt (refine' slice3_LG ?zqF ?zqN ?zql ?zqp ?zqq ?zqr ?zqh0 ?_ ?zqz ?zqs ?zqt; (case zqF => k_asm); (case zqN => k_asm); (case zql => walk_at "m_at"); (case zqp => exact IsPart.int _ _); (case zqq => exact IsPart.int _ _); (case zqr => exact IsPart.int _ _); (case zqh0 => assumption); (case zqz => walk_at "m_room"); (case zqs => with_unfolding_all rfl); (case zqt => intro _; with_unfolding_all rfl)); walk_at "m_t6")
  k_with "subscriptTail Name Slice ref ref" => (k_here; k_dflt (refine' slice_LG ?zqF ?zqN ?zql ?zqp ?zqq ?_ ?zqz ?zqs ?zqt; (case zqF => k_asm); (case zqN => k_asm); (case zql => walk_at "m_at"); (case zqp => first | exact IsPart.none | exact IsPart.int _ _); (case zqq => first | exact IsPart.none | exact IsPart.int _ _); (case zqz => walk_at "m_room"); (case zqs => with_unfolding_all rfl); (case zqt => intro _; with_unfolding_all rfl)); walk_at "m_t6")
  k_with "subscriptTail Name BinOp ref int" => (k_here; k_dflt (refine' tup_str ?zqN ?zqm ?zqj ?zqz ?zqx ?_ ?zqs ?zqg; (case zqN => k_asm); (case zqm => k_mem); (case zqj => (simp only [List.length_cons, List.length_nil]; omega)); (case zqz => (simp only [List.length_cons, List.length_nil]; omega)); (case zqx => exact leaf_ok1 _ _ _ _ _ _); (case zqs => with_unfolding_all rfl); (case zqg => intro _; with_unfolding_all rfl)); intro _ _ _)
  k_with "m_idx" => (k_here; k_dflt (refine' item_LE ?zqk1 ?zqk2 ?zqk3 ?zqk4 ?_ ?zqk5 ?zqk6; (case zqk1 => walk_at "m_at"); (case zqk2 => omega); (case zqk3 => omega); (case zqk4 => omega); (case zqk5 => with_unfolding_all rfl); (case zqk6 => intro _; with_unfolding_all rfl)); intro _ _)
  k_with "subscriptTail Name BinOp ref int" => walk_at "m_idx"
  k_with "subscriptTail Name Name ref int" => walk_at "m_idx"
  k_with "subscriptTail Constant BinOp str int" => (k_here; k_dflt (refine' sign_item ?zqk1 ?_ ?zqk2 ?zqk3; (case zqk1 => omega); (case zqk2 => with_unfolding_all rfl); (case zqk3 => intro _; with_unfolding_all rfl)); intro _ _ _ _)
  k_with "m_room" => (first | with_reducible refine room_1 ?_ | with_reducible refine room_pp ?_ | with_reducible refine room_ppp ?_ | with_reducible refine room_pn ?_ | with_reducible refine room_pnp ?_); first | assumption | omega
  k_with "call builtin:str.join" => (k_here; k_dflt (refine' join_LG ?zqk1 ?zqk2 ?zqk3 ?zqk4 ?_; (case zqk1 => walk_at "m_at"); (case zqk2 => assumption); (case zqk3 => assumption); (case zqk4 => assumption)); intro _ _)
  k_with "exec For Name Call cons nil" => (k_here; k_dflt (refine' wpAny_For ?_))
  intro c A s l vs ns n h44 h51 hl hvs hlen I hA R hR
  refine' enterC (binds := [(Str.ofString "script", .ref l)]) I ?k1 ?k2 hA.lt ?k4 ?k5 ?k6 ?_ ?c2 ?c3 ?c4
  case k1 => k_is
  case k2 => k_is
  case k4 => exact BindsTo.of_eq rfl
  case k5 => exact rfl
  case k6 => decide +kernel
  case c2 => exact rfl
  case c3 => exact rfl
  case c4 => exact rfl
  intro g L h₁ tk1 cells AA hAA Z F N hC I1 X T
  have hA1 := hAA 39 hA
  replace F : Fr g L h₁ (fun _ => none) := F
  obtain ⟨oC, oS, rfl, dC, dS⟩ := CellsAre.two hC
  clear hC
  have hL1 := Z.fresh F (Nat.lt_succ_self L)
  have hL2 := Z.fresh F (Nat.lt_succ_of_lt (Nat.lt_succ_self L))
  have hlg : LAt g l vs n := Z.old _ _ hl h44 h51
  have hvl := hvs.length
  replace dS : oS.data = .cell (some (.ref l)) := dS
  replace dC : oC.data = .cell none := dC
  obtain ⟨p, q, fz, N1, P1, U1⟩ := renewF Z F N (by
    intro x hx
    rcases List.mem_cons.mp hx with rfl | hx
    · exact ⟨hL2.2.2.1, hL2.2.2.2, not_code_cell dC⟩
    · cases List.mem_singleton.mp hx; exact ⟨hL1.2.2.1, hL1.2.2.2, not_code_cell dS⟩) I1
  clear N
  dsimp only [List.cons_append, List.nil_append] at N1
  have aC : ∀ x ∈ fz, x.1 ≠ L + 1 + 1 := U1.apart (L + 1 + 1, oC) (by simp)
  have l44 : @LT.lt Nat _ 51 (L + 1) := Nat.lt_succ_of_lt (Nat.lt_of_lt_of_le c.lt Z.tl)
  have sel : PSel (fun _ => true) (fun _ y => ∃ n t, y = Value.int n t) := ⟨trivial⟩
  show wpAny _ _ _ _ _ _
  k_fold
  k_steps
  rename IsRange _ _ _ _ _ _ _ _ => hrg
  rename Fr _ _ _ _ => F4
  rename News _ _ _ _ => N4
  rename ((_ : Nat) : Int) < 3 => hj0
  rename Obj.data _ = Data.cell (some (Value.int _ _)) => dC'
  obtain ⟨j0, e0⟩ := nm_nat hj0
  subst e0
  obtain ⟨oC', e1⟩ := nm_obj dC'
  subst e1
  obtain ⟨h4, e2⟩ := nm_fr F4
  subst e2
  refine wpAny_pyIter_range hrg (small_one (by decide) (by decide) (by omega) (by omega)) ?_
  have hsz2 : Builtin.Range.rangeSize 0 (3 + (j0 : Int)) 1 = ((3 + j0 : Nat) : Int) := by rw [rangeSize_one]; split <;> omega
  rw [hsz2]
  have I4 := Pt.inv Z P1 F4 N4 (by walk_at "m_fz") (by walk_at "m_tab") (by walk_at "m_tab")
  have hcC4 := (N4 (L + 1 + 1, oC') (by simp)).1
  have hcS4 := (N4 (L + 1, oS) (by simp)).1
  dsimp only at hcC4 hcS4 ⊢
  have kp : ∀ b o, h4.get? b = some o → (h4.push { cls := .type "range_iterator", data := .fields #[rawInt 0, rawInt ((3 + j0 : Nat) : Int), rawInt 1] }).get? b = some o := fun b o e => Heap.get?_push_of_some _ e
  have hid : ∀ b o, h4.get? b = some o → (hideAll (h4.push { cls := .type "range_iterator", data := .fields #[rawInt 0, rawInt ((3 + j0 : Nat) : Int), rawInt 1] }) [h4.objs.size]).get? b = some o := fun b o e => hideAll_get _ (kp b o e) (by simp only [List.mem_singleton]; exact Nat.ne_of_lt (Heap.lt_size e))
  have hL4 := F4.ns.lt
  refine ⟨h4.objs.size, [h4.objs.size], [h4.objs.size], 3 + j0, _, _, _, rfl, (Walks.range hA1.handled h4.objs.size 0 1 (3 + j0)).bound, by rw [PySem.sizeLine_eq]; omega, ?_, fun b hb => ?_, fun hb => ?_, F4.ns.push _, fun C hC j v s₃ m₃ hv hF hm => ?_, fun C hC j v s₃ m₃ hv hpv hF hm => ?_, fun D h' tk ys vs2 hD hD0 hpl hlen2 hP2 hFv hn hk => ?_⟩
  · show IsRangeIter _ _ _ _ _
    rw [show (0 : Int) + ((0 : Nat) : Int) * 1 = 0 by omega, show ((3 + j0 : Nat) : Int) - ((0 : Nat) : Int) = ((3 + j0 : Nat) : Int) by omega]
    exact Heap.get?_push_size _ rfl
  · cases List.mem_singleton.mp hb; rw [Heap.size_push]; exact Nat.lt_succ_self _
  · exact Nat.lt_irrefl _ (by have := List.mem_singleton.mp hb; exact this ▸ hL4)
  · exact wpAny_tests_nil ⟨rfl, ⟨s₃.heap, s₃.toks, rfl, hF, fun _ _ _ e => e⟩⟩
  · obtain ⟨hjl, t0', rfl⟩ := hv
    rw [show (0 : Int) + (j : Int) * 1 = (j : Int) by omega] at hm
    have X2 := X.keeps fun b o e => hid b o (F4.keep b o e)
    have T2 := T.keeps fun b o e => hid b o (F4.keep b o e)
    have hlg2 : LAt _ l vs n := hid _ _ (F4.keep _ _ hlg)
    have hcC2 := hid _ _ hcC4
    have hcS2 := hid _ _ hcS4
    rw [map_as hm] at hF
    obtain ⟨fz2, N5, Z5⟩ := freeze0 hF
    have hj5 : j < 5 := by omega
    have h30 : (some (3 + (j0 : Int)) : Option Int) ≠ some 0 := fun z => by have := Option.some.inj z; omega
    clear F4 N4 X T P1 I4 kp hrg hid hcC4 hcS4
    generalize hideAll _ _ = g2 at *
    show wpAny _ _ _ _ _ _
    k_fold
    k_steps
    rename Fr _ _ _ _ => F6
    rename News _ _ _ _ => N6
    rw [map_as hm]
    exact Z5.quiet F6 N6 (by walk_at "m_fz")
  · have hk4 : ∀ b o, b ≠ L → h4.get? b = some o → h'.get? b = some o := fun b o hb e => hk b o hb (by simp only [List.mem_singleton]; exact Nat.ne_of_lt (Heap.lt_size e)) (kp b o e)
    have F6 : Fr g L h' _ := fr_but F4 hn fun b o hb e _ => hk4 b o hb e
    have hLD : @LT.lt Nat _ L D := Nat.lt_of_lt_of_le (Nat.lt_succ_of_lt hL4) (by rw [Heap.size_push] at hD; exact hD)
    have hDf := Z.fresh F6 hLD
    have hints : ∀ y ∈ ys.toList, ∃ n t, y = Value.int n t := fun y hy => (paired_all hFv y hy).elim fun _ h => h
    have hnl : ys.toList.length = 3 + j0 := by rw [paired_len hFv, filter_all, hlen2]
    obtain ⟨nD, hDe⟩ := hpl
    generalize hnv : ys.toList = nvs at *
    have hys : ys = nvs.toArray := by rw [← hnv, Array.toArray_toList]
    subst hys
    have I6 : Inv c h' := I4.but (fun b => b = L) (fun b o e hb => hk4 b o hb e) (fun b hb => by rw [hb]; exact Z.tl) (fun b o hb e hc => by
      obtain ⟨oL, es, ep, eL, hdL, _⟩ := F4.ns
      obtain ⟨vs, _, _, hv, _⟩ := hc
      rw [hb, eL] at e; cases e; rw [hdL] at hv; cases hv) (Nat.le_trans Z.tl (Nat.le_of_lt F6.ns.lt))
    have N6 : News g L h' [(D, PySem.W.listOf nvs.toArray nD)] := fun x hx => by
      cases List.mem_singleton.mp hx; exact ⟨hDe, hDf.1, hDf.2.1⟩
    obtain ⟨p6, q6, fz6, N7, P7, U7⟩ := renewF Z F6 N6 (by
      intro x hx; cases List.mem_singleton.mp hx; exact ⟨hDf.2.2.1, hDf.2.2.2, not_code_list⟩) I6
    dsimp only [List.cons_append, List.nil_append] at N7
    clear F4 N4 P1 U1 N6 I4 kp hrg hid hcC4 hcS4 sel hk hn hk4 hP2 hFv hlen2 aC hsz2
    have sel : PSel (fun _ => true) (fun _ y => ∃ x t, y = Value.str x t ∧ LeafOk x) := ⟨trivial⟩
    show wpAny _ _ _ _ _ _
    k_steps
    rename Fr _ _ _ _ => F8
    rename News _ _ _ _ => N8
    have I8 := Pt.inv Z P7 F8 N8 (by walk_at "m_fz") (by walk_at "m_tab") (by walk_at "m_tab")
    have hD8 := (N8 (D, PySem.W.listOf nvs.toArray nD) (List.mem_cons_self ..)).1
    refine wpAny_pyIter_list (News.isList N8 (List.mem_cons_self ..)) ?_
    dsimp only at hD8 ⊢
    have hDs := Heap.lt_size hD8
    have hL8 := F8.ns.lt
    have kp8 : ∀ b o, h'.get? b = some o → (h'.push { cls := .type "list_iterator", data := .fields #[.ref D, .int 0 0] }).get? b = some o := fun b o e => Heap.get?_push_of_some _ e
    have hid8 : ∀ b o, h'.get? b = some o → (hideAll (h'.push { cls := .type "list_iterator", data := .fields #[.ref D, .int 0 0] }) [h'.objs.size]).get? b = some o := fun b o e => hideAll_get _ (kp8 b o e) (by simp only [List.mem_singleton]; exact Nat.ne_of_lt (Heap.lt_size e))
    refine ⟨h'.objs.size, [h'.objs.size, D], [h'.objs.size], nvs.toArray.size, _, _, _, rfl, Walks.list hA1.handled h'.objs.size D (Nat.ne_of_lt hDs) nvs.toArray, by rw [PySem.sizeLine_eq, List.size_toArray]; omega, ⟨⟨_, Heap.get?_push_size _ rfl, rfl, rfl⟩, ⟨_, kp8 _ _ hD8, rfl, _, rfl⟩⟩, fun b hb => ?_, fun hb => ?_, F8.ns.push _, fun C hC j v s₃ m₃ hv hF hm => ?_, fun C hC j v s₃ m₃ hv hpv hF hm => ?_, fun D2 h9 tk9 ys vs3 hD2 hD20 hpl hlen3 hP3 hFv hn hk => ?_⟩
    · rw [Heap.size_push]
      rcases List.mem_cons.mp hb with rfl | hb
      · exact Nat.lt_succ_self _
      · cases List.mem_singleton.mp hb; exact Nat.lt_succ_of_lt hDs
    · exact Nat.lt_irrefl _ (by have := List.mem_singleton.mp hb; exact this ▸ hL8)
    · exact wpAny_tests_nil ⟨rfl, ⟨s₃.heap, s₃.toks, rfl, hF, fun _ _ _ e => e⟩⟩
    · rw [List.getElem?_toArray] at hv
      obtain ⟨nx, tx, rfl⟩ := hints v (List.mem_of_getElem? hv)
      have X2 := X.keeps fun b o e => hid8 b o (F8.keep b o e)
      have T2 := T.keeps fun b o e => hid8 b o (F8.keep b o e)
      rw [map_as hm] at hF
      obtain ⟨fz2, N5, Z5⟩ := freeze0 hF
      clear F8 N8 X T P7 U7 I8 kp8 hid8 hD8
      generalize hideAll _ _ = g2 at *
      show wpAny _ _ _ _ _ _
      k_fold
      k_steps
      · assumption
      · rename Fr _ _ _ _ => F9
        rename News _ _ _ _ => N9
        rw [map_as hm]
        exact Z5.quiet F9 N9 (by walk_at "m_fz")
    · have hk9 : ∀ b o, b ≠ L → h'.get? b = some o → h9.get? b = some o := fun b o hb e => hk b o hb (by simp only [List.mem_singleton]; exact Nat.ne_of_lt (Heap.lt_size e)) (kp8 b o e)
      have F9 : Fr g L h9 _ := fr_but F8 hn fun b o hb e _ => hk9 b o hb e
      have hLD2 : @LT.lt Nat _ L D2 := Nat.lt_of_lt_of_le (Nat.lt_succ_of_lt hL8) (by rw [Heap.size_push] at hD2; exact hD2)
      have hD2f := Z.fresh F9 hLD2
      have hlv : ∀ y ∈ ys.toList, ∃ x t, y = Value.str x t ∧ LeafOk x := fun y hy => (paired_all hFv y hy).elim fun _ h => h
      have hll : ys.toList.length = 3 + j0 := by rw [paired_len hFv, filter_all, hlen3, List.size_toArray, hnl]
      obtain ⟨nD2, hD2e⟩ := hpl
      generalize hnv2 : ys.toList = lvs0 at *
      have hys : ys = lvs0.toArray := by rw [← hnv2, Array.toArray_toList]
      subst hys
      have I9 : Inv c h9 := I8.but (fun b => b = L) (fun b o e hb => hk9 b o hb e) (fun b hb => by rw [hb]; exact Z.tl) (fun b o hb e hc => by
        obtain ⟨oL, es, ep, eL, hdL, _⟩ := F8.ns
        obtain ⟨vs, _, _, hv, _⟩ := hc
        rw [hb, eL] at e; cases e; rw [hdL] at hv; cases hv) (Nat.le_trans Z.tl (Nat.le_of_lt F9.ns.lt))
      have N9 : News g L h9 [(D, PySem.W.listOf nvs.toArray nD), (D2, PySem.W.listOf lvs0.toArray nD2)] := fun x hx => by
        rcases List.mem_cons.mp hx with rfl | hx
        · exact ⟨hk9 _ _ hDf.1 hD8, hDf.1, hDf.2.1⟩
        · cases List.mem_singleton.mp hx; exact ⟨hD2e, hD2f.1, hD2f.2.1⟩
      obtain ⟨p9, q9, fz9, N10, P10, U10⟩ := renewF Z F9 N9 (by
        intro x hx
        rcases List.mem_cons.mp hx with rfl | hx
        · exact ⟨hDf.2.2.1, hDf.2.2.2, not_code_list⟩
        · cases List.mem_singleton.mp hx; exact ⟨hD2f.2.2.1, hD2f.2.2.2, not_code_list⟩) I9
      dsimp only [List.cons_append, List.nil_append] at N10
      clear F8 N8 P7 U7 N9 I8 kp8 hid8 hD8 sel hk hn hk9 hP3 hFv hlen3
      show wpAny _ _ _ _ _ _
      k_steps
      rename Fr _ _ _ _ => F11
      rename News _ _ _ _ => N11
      rename Above _ _ _ => lA11
      obtain ⟨ax, e0⟩ := nm_above lA11
      subst e0
      obtain ⟨h11, e1⟩ := nm_fr F11
      subst e1
      have I11 := Pt.inv Z P10 F11 N11 (by walk_at "m_fz") (by walk_at "m_tab") (by walk_at "m_tab")
      have hD11 := (N11 (D2, PySem.W.listOf lvs0.toArray nD2) (by simp)).1
      have hX11 := (N11 _ (List.mem_cons_self ..)).1
      have hDX := lA11.all (D2, PySem.W.listOf lvs0.toArray nD2) (by simp)
      have hLX := lA11.lt
      refine wpAny_pyIter_list (News.isList N11 (List.mem_cons_self ..)) ?_
      dsimp only at hD11 hX11 ⊢
      have hXs := Heap.lt_size hX11
      have hD11s := Heap.lt_size hD11
      have hL11 := F11.ns.lt
      have kp11 : ∀ b o, h11.get? b = some o → (h11.push { cls := .type "list_iterator", data := .fields #[.ref ax, .int 0 0] }).get? b = some o := fun b o e => Heap.get?_push_of_some _ e
      have hpk : kms_pick nvs (some 1) none = nvs.drop 1 := pick_from nvs (a := 1)
      rw [hpk] at hX11
      have hn1 : (nvs.drop 1).toArray.size = 2 + j0 := by rw [List.size_toArray, List.length_drop, hnl]; omega
      obtain ⟨trs0, ht0, hok0, hlen0, hsum0⟩ := leaves_are (S := fun b => L < (b : Nat) ∧ (b : Nat) ≠ h11.objs.size) (h := h11) hlv
      refine walk_loop (Walks.list hA1.handled h11.objs.size ax (Nat.ne_of_lt hXs) (nvs.drop 1).toArray) Z rfl rfl rfl (fun b hb => by cases List.mem_singleton.mp hb; exact hL11) (fun i h st b hb o e hc => ?_)
        (fun hb => ?_) (TJ s L h11.objs.size ax (3 + j0)) (fun i m' s' h' tk jj k => ?_) (F11.push _) (I11.keeps kp11 (by rw [Heap.size_push]; exact Nat.le_succ_of_le I11.size)) ⟨⟨_, Heap.get?_push_size _ rfl, rfl, rfl⟩, ⟨_, kp11 _ _ hX11, rfl, _, rfl⟩⟩
        ⟨⟨D2, lvs0, nD2, trs0, rfl, kp11 _ _ hD11, ht0.keeps fun b o _ e => kp11 b o e, hok0, by rw [hlen0, hll]; rfl, by rw [hsum0, hll], hLD2, Nat.ne_of_lt hD11s, Nat.ne_of_lt hDX⟩, rfl, rfl⟩ (fun i v m₁ s₁ hi hv hj I₁ st₁ F₁ => ?_) (fun s' m' I' F' hj => ?_)
      · cases List.mem_singleton.mp hb
        obtain ⟨⟨o', h1, _, h2⟩, _⟩ := st
        rw [h1] at e; cases e
        obtain ⟨vs, q', t', hd', hv'⟩ := hc
        rw [h2] at hd'; cases hd'; cases hv'
      · rcases List.mem_cons.mp hb with e | hb
        · exact absurd hL11 (Nat.not_lt.mpr (Nat.le_of_eq e.symm))
        · cases List.mem_singleton.mp hb; exact Nat.lt_irrefl _ hLX
      · obtain ⟨T, lvs, nT, trs, a1, a2, a3, a4, a5, a6, a7, a8, a9⟩ := jj.ex
        exact ⟨⟨T, lvs, nT, trs, a1, k _ _ (fun z => a8 (List.mem_singleton.mp z)) (Nat.ne_of_gt a7) a2, a3.keeps fun b o hb e => k b o (fun z => hb.2 (List.mem_singleton.mp z)) (Nat.ne_of_gt hb.1) e, a4, a5, a6, a7, a8, a9⟩, jj.gens, jj.os⟩
      · obtain ⟨T, lvs, nT, trs, a1, a2, a3, a4, a5, a6, a7, a8, a9⟩ := hj.ex
        rw [List.getElem?_toArray] at hv
        obtain ⟨nx, tx, rfl⟩ := hints v (List.mem_of_mem_drop (List.mem_of_getElem? hv))
        rw [hn1] at hi
        have hlt := a3.length
        have hlv5 : lvs.length ≤ 1000 := by omega
        have hlv2 : 2 ≤ lvs.length := by omega
        have hlv6 : lvs.length < 2 ^ 62 := Nat.lt_of_le_of_lt hlv5 (by decide)
        replace a5 : True → _ := fun _ => a5
        replace a6 : True → _ := fun _ => a6
        replace hlt : True → _ := fun _ => hlt
        rw [map_as a1] at F₁
        have F₀ : True → Fr g L s₁.heap _ := fun _ => F₁
        have hTf := Z.fresh F₁ a7
        have N₁ : News g L s₁.heap [(T, PySem.W.listOf lvs.toArray nT)] := fun x hx => by
          cases List.mem_singleton.mp hx; exact ⟨a2, hTf.1, hTf.2.1⟩
        obtain ⟨p1, q1, fz1, N2, P2, U2⟩ := renewF Z F₁ N₁ (by
          intro x hx; cases List.mem_singleton.mp hx; exact ⟨hTf.2.2.1, hTf.2.2.2, not_code_list⟩) I₁
        dsimp only [List.cons_append, List.nil_append] at N2
        clear F11 N11 P10 U10 I11 N₁ hX11 hD11 kp11
        show wpAny _ _ _ _ _ _
        k_fold
        k_steps
        rename Fr _ _ _ _ => F13
        rename News _ _ _ _ => N13
        rename Above _ _ _ => lA13
        exact tj_turn (s₁ := s₁) Z P2 U2 (F₀ trivial) st₁ hL11 hLX a7 a8 a9 a2 a3 a4 (a5 trivial) (a6 trivial) F13 N13 (by walk_at "m_fz") (by walk_at "m_tab") (by walk_at "m_tab") (by k_mem) (by k_mem) (by k_mem) lA13 (by walk_at "m_fz") (by assumption) (by walk_at "m_fz") rfl (by assumption) (by assumption) (by assumption) (by assumption) hj.gens hj.os
      · obtain ⟨T, lvs, nT, trs, a1, a2, a3, a4, a5, a6, a7, a8, a9⟩ := hj.ex
        rw [hn1] at a5
        have hl1 : trs.length = 1 := by omega
        obtain ⟨tr, rfl⟩ : ∃ tr, trs = [tr] := by
          match trs, hl1 with
          | [tr], _ => exact ⟨tr, rfl⟩
        obtain ⟨v0, lv', rfl, hT0, hnil⟩ : ∃ v0 lv', lvs = v0 :: lv' ∧ TreeAt (fun b => L < (b : Nat) ∧ (b : Nat) ≠ h11.objs.size) s'.heap tr v0 ∧ lv' = [] := by
          cases a3 with
          | cons x y => cases y; exact ⟨_, _, rfl, x, rfl⟩
        subst hnil
        have hok := a4 tr (List.mem_singleton.mpr rfl)
        have hnl2 : tr.nl = 3 + j0 := by rw [← a6]; simp
        have PO := plain_ok hok (by omega)
        have hdep := Tree.depth_lt tr
        have hT1 : TreeAt (From (L + 1)) s'.heap tr v0 := hT0.mono fun b hb _ => hb.1
        clear hT0 a3 a4 a5 a6 hl1
        rw [map_as a1] at F'
        have hTf := Z.fresh F' a7
        have N₁ : News g L s'.heap [(T, PySem.W.listOf [v0].toArray nT)] := fun x hx => by
          cases List.mem_singleton.mp hx; exact ⟨a2, hTf.1, hTf.2.1⟩
        obtain ⟨p1, q1, fz1, N2, P2, U2⟩ := renewF Z F' N₁ (by
          intro x hx; cases List.mem_singleton.mp hx; exact ⟨hTf.2.2.1, hTf.2.2.2, not_code_list⟩) I'
        dsimp only [List.cons_append, List.nil_append] at N2
        clear F11 N11 P10 U10 I11 N₁ hX11 hD11 kp11
        show wpAny _ _ _ _ _ _
        k_steps
        rename Fr _ _ _ _ => F15
        rename News _ _ _ _ => N15
        have I15 := Pt.inv Z P2 F15 N15 (by walk_at "m_fz") (by walk_at "m_tab") (by walk_at "m_tab")
        have hL15 := F15.ns.lt
        have hlo1 : c.gT.objs.size ≤ L + 1 := Nat.le_trans Z.tl (Nat.le_succ _)
        have hT15 := hT1.stable (P2.stableO Z F15 N15 (by intro y hy; simp [hy]) (by intro y hy; cases List.mem_singleton.mp hy; exact ⟨by simp, a2⟩) (Nat.lt_succ_self L))
        refine Calls.use (tokens_spec tr hok (Nat.le_trans PO.len (by decide)) c AA _ (L + 1) v0 hlo1 hT15 I15 (hA1.le (by omega))) fun v s17 b17 hv => ?_
        obtain ⟨tl, tvs, tn, rfl, htl, htg, hts⟩ := hv.ex
        have hLtl : @LT.lt Nat _ L tl := Nat.lt_of_lt_of_le hL15 htl
        obtain ⟨F17, p17, q17, fz17, N17, P17⟩ := after_new (s₁ := { s' with toks := s'.toks + 1 }) [(T, PySem.W.listOf [v0].toArray nT)] Z F15 N15 (fun x hx => by cases List.mem_singleton.mp hx; exact ⟨by simp, hTf.2.2.1, hTf.2.2.2, not_code_list⟩) b17 htg hLtl not_code_list
        have hT17 := hT15.stable (b17.stable I15 hlo1)
        have hg17 : s17.gens = s.gens ∨ True := .inr trivial
        have hgg17 : ∀ (i : Nat) (x : GenState), s.gens[i]? = some x → s17.gens[i]? = some x := fun i y e => b17.gens i y (by rw [show _ = s.gens from hj.gens]; exact e)
        have hgb17 : AllBare s.gens → AllBare s17.gens := fun e => b17.bare (by rw [show _ = s.gens from hj.gens]; exact e)
        have hgo17 : s17.os = s.os := b17.os.trans hj.os
        have hun := PO.unit
        have hle := PO.len
        have htlf := Z.fresh F17 hLtl
        dsimp only [List.cons_append, List.nil_append] at N17
        have hTg17 := (N17 (T, PySem.W.listOf [v0].toArray nT) (by simp)).1
        clear F15 N15 P2 I15 hT15 hT1 U2
        show wpAny _ _ _ _ _ _
        k_fold
        k_steps
        rename Fr _ _ _ _ => F19
        rename News _ _ _ _ => N19
        have I19 := Pt.inv Z P17 F19 N19 (by walk_at "m_fz") (by walk_at "m_tab") (by walk_at "m_tab")
        have hT19 := hT17.stable (P17.stableO Z F19 N19 (by intro y hy; simp [hy]) (fun y hy => by
          rcases List.mem_cons.mp hy with rfl | hy
          · exact ⟨by simp, htg⟩
          · cases List.mem_singleton.mp hy; exact ⟨by simp, hTg17⟩) (Nat.lt_succ_self L))
        refine Calls.use (read_spec 12 _ tr PO.read hun (Nat.le_trans hle (by decide)) c AA _ _ I19 (hA1.le (by decide))) fun v s21 b21 hv => ?_
        have hTv := hv.tree.le (lo' := L + 1) F19.ns.lt
        obtain ⟨F21, p21, q21, fz21, N21, P21⟩ := after_step [(tl, PySem.W.listOf tvs.toArray tn), (T, PySem.W.listOf [v0].toArray nT)] Z F19 N19 (fun x hx => by
          rcases List.mem_cons.mp hx with rfl | hx
          · exact ⟨by simp, htlf.2.2.1, htlf.2.2.2, not_code_list⟩
          · cases List.mem_singleton.mp hx; exact ⟨by simp, hTf.2.2.1, hTf.2.2.2, not_code_list⟩) b21
        dsimp only [List.cons_append, List.nil_append] at N21
        have htl21 := (N21 (tl, PySem.W.listOf tvs.toArray tn) (by simp)).1
        have hTg21 := (N21 (T, PySem.W.listOf [v0].toArray nT) (by simp)).1
        have hT21 := hT19.stable (b21.stable I19 hlo1)
        have hgg21 : ∀ (i : Nat) (x : GenState), s.gens[i]? = some x → s21.gens[i]? = some x := fun i y e => b21.gens i y (hgg17 i y e)
        have hgb21 : AllBare s.gens → AllBare s21.gens := fun e => b21.bare (hgb17 e)
        have hgo21 : s21.os = s.os := b21.os.trans hgo17
        clear F19 N19 P17 I19 hT19 hT17
        show wpAny _ _ _ _ _ _
        k_fold
        k_steps
        rename Fr _ _ _ _ => F23
        rename News _ _ _ _ => N23
        have I23 := Pt.inv Z P21 F23 N23 (by walk_at "m_fz") (by walk_at "m_tab") (by walk_at "m_tab")
        have st23 := P21.stableO Z F23 N23 (by intro y hy; simp [hy]) (fun y hy => by
          rcases List.mem_cons.mp hy with rfl | hy
          · exact ⟨by simp, htl21⟩
          · cases List.mem_singleton.mp hy; exact ⟨by simp, hTg21⟩) (Nat.lt_succ_self L)
        refine ne_tree (d := 30) (hTv.stable st23) (hT21.stable st23) hok (by omega) (hA1.le (by decide)) ?_
        k_steps
        rename Fr _ _ _ _ => F25
        rename News _ _ _ _ => N25
        have I25 := Pt.inv Z P21 F25 N25 (by walk_at "m_fz") (by walk_at "m_tab") (by walk_at "m_tab")
        have hL25 := F25.ns.lt
        obtain ⟨rows, hsp, hrn, hrok⟩ := PO.spared
        refine Calls.use (spared_spec (toks tr) rows hsp (Nat.le_trans hle (by decide)) c AA _ tl tvs tn htlf.2.2.1 htlf.2.2.2 (N25 (tl, PySem.W.listOf tvs.toArray tn) (by simp)).1 hts I25 (hA1.le (by decide))) fun v s27 b27 hv => ?_
        obtain ⟨rl, rvs, rn, rfl, hrl, hrg, hrows⟩ := hv.ex
        have hLrl : @LT.lt Nat _ L rl := Nat.lt_of_lt_of_le hL25 hrl
        obtain ⟨F27, p27, q27, fz27, N27, P27⟩ := after_newA b27 [] Z F25 N25 (fun _ hx => by cases hx) hrg hLrl not_code_list
        have hgg27 : ∀ (i : Nat) (x : GenState), s.gens[i]? = some x → s27.gens[i]? = some x := fun i y e => b27.gens i y (hgg21 i y e)
        have hgb27 : AllBare s.gens → AllBare s27.gens := fun e => b27.bare (hgb21 e)
        have hgo27 : s27.os = s.os := b27.os.trans hgo21
        have hrows2 : RowsAre (fun b => L < (b : Nat)) s27.heap rvs rows := hrows.mono fun b hb _ => Nat.lt_of_lt_of_le hL25 hb.1
        have hrlen := hrows.length
        dsimp only [List.cons_append, List.nil_append] at N27
        clear F25 N25 P21 I25 I23
        have hrlf := Z.fresh F27 hLrl
        have hrs := Heap.lt_size hrg
        have hL27 := F27.ns.lt
        refine wpAny_pyIter_list (News.isList N27 (List.mem_cons_self ..)) ?_
        have kp27 : ∀ b o, s27.heap.get? b = some o → (s27.heap.push { cls := .type "list_iterator", data := .fields #[.ref rl, .int 0 0] }).get? b = some o := fun b o e => Heap.get?_push_of_some _ e
        refine walk_loop (Walks.list hA1.handled s27.heap.objs.size rl (Nat.ne_of_lt hrs) rvs.toArray) Z rfl rfl rfl (fun b hb => by cases List.mem_singleton.mp hb; exact hL27) (fun i h st b hb o e hc => ?_)
          (fun hb => ?_) (RJ s L s27.heap.objs.size rvs rows) (fun i m' s' h' tk jj k => ⟨jj.rows.keeps fun b o hb e => k b o (fun z => hb.2 (List.mem_singleton.mp z)) (Nat.ne_of_gt hb.1) e, jj.gens, jj.bare, jj.os⟩) (F27.push _) (b27.inv.keeps kp27 (by rw [Heap.size_push]; exact Nat.le_succ_of_le b27.inv.size)) ⟨⟨_, Heap.get?_push_size _ rfl, rfl, rfl⟩, ⟨_, kp27 _ _ hrg, rfl, _, rfl⟩⟩
          ⟨(hrows2.mono fun b hb e => ⟨hb, by
            cases hq : s27.heap.get? b with
            | none => exact absurd hq e
            | some o => exact Nat.ne_of_lt (Heap.lt_size hq)⟩).keeps fun b o _ e => kp27 b o e, hgg27, hgb27, hgo27⟩ (fun i v m₁ s₁ hi hv hj I₁ st₁ F₁ => ?_) (fun s' m' I' F' hj => ?_)
        · cases List.mem_singleton.mp hb
          obtain ⟨⟨o', h1, _, h2⟩, _⟩ := st
          rw [h1] at e; cases e
          obtain ⟨vs, q', t', hd', hv'⟩ := hc
          rw [h2] at hd'; cases hd'; cases hv'
        · rcases List.mem_cons.mp hb with e | hb
          · exact absurd hL27 (Nat.not_lt.mpr (Nat.le_of_eq e.symm))
          · cases List.mem_singleton.mp hb; exact Nat.lt_irrefl _ hLrl
        · rw [List.getElem?_toArray] at hv
          obtain ⟨ra, rxs, rxn, rts, rfl, hrts, hSra, hLra, hstr⟩ := hj.rows.get i v hv
          have RO := hrok rts (List.mem_of_getElem? hrts)
          obtain ⟨rt, hrd, hrf, hrok2, hrdep⟩ := RO.both
          have hru := RO.unit
          have hrle := RO.len
          have F₀ : True → Fr g L s₁.heap _ := fun _ => F₁
          have hraf := Z.fresh F₁ hSra.1
          have N₁ : News g L s₁.heap [(ra, PySem.W.listOf rxs.toArray rxn)] := fun x hx => by
            cases List.mem_singleton.mp hx; exact ⟨hLra, hraf.1, hraf.2.1⟩
          obtain ⟨p1, q1, fz1, N2, P2⟩ := renew Z F₁ N₁ (by
            intro x hx; cases List.mem_singleton.mp hx; exact ⟨hraf.2.2.1, hraf.2.2.2, not_code_list⟩) I₁
          dsimp only [List.cons_append, List.nil_append] at N2
          clear F27 N27 P27 kp27 N₁ hrows hrows2
          show wpAny _ _ _ _ _ _
          k_fold
          k_steps
          rename Fr _ _ _ _ => F31
          rename News _ _ _ _ => N31
          have I31 := Pt.inv Z P2 F31 N31 (by walk_at "m_fz") (by walk_at "m_tab") (by walk_at "m_tab")
          refine Calls.use (read_spec 12 _ rt hrd hru (Nat.le_trans hrle (by decide)) c AA _ _ I31 (hA1.le (by decide))) fun v s33 b33 hv => ?_
          have hTv := hv.tree.le (lo' := L + 1) F31.ns.lt
          obtain ⟨F33, p33, q33, fz33, N33, P33⟩ := after_stepA b33 [(ra, PySem.W.listOf rxs.toArray rxn)] Z F31 N31 (fun x hx => by cases List.mem_singleton.mp hx; exact ⟨by simp, hraf.2.2.1, hraf.2.2.2, not_code_list⟩)
          dsimp only [List.cons_append, List.nil_append] at N33
          have hra33 := (N33 (ra, PySem.W.listOf rxs.toArray rxn) (by simp)).1
          have S33 := (P2.stableO Z F31 N31 (by intro y hy; simp [hy]) (fun y hy => by cases List.mem_singleton.mp hy; exact ⟨by simp, hLra⟩) (Nat.lt_succ_self L)).trans (b33.stable (lo := L + 1) I31 hlo1)
          clear F31 N31
          show wpAny _ _ _ _ _ _
          k_fold
          k_steps
          rename Fr _ _ _ _ => F35
          rename News _ _ _ _ => N35
          have I35 := Pt.inv Z P33 F35 N35 (by walk_at "m_fz") (by walk_at "m_tab") (by walk_at "m_tab")
          have st35 := P33.stableO Z F35 N35 (by intro y hy; simp [hy]) (fun y hy => by cases List.mem_singleton.mp hy; exact ⟨by simp, hra33⟩) (Nat.lt_succ_self L)
          refine Calls.use (front_spec rts rt hrf (Nat.le_trans hrle (by decide)) c AA _ ra rxs rxn hraf.2.2.1 hraf.2.2.2 (N35 (ra, PySem.W.listOf rxs.toArray rxn) (by simp)).1 hstr I35 (hA1.le (by decide))) fun v2 s37 b37 hv2 => ?_
          have hTv2 := hv2.tree.le (lo' := L + 1) F35.ns.lt
          have hTv3 := (hTv.stable st35).stable (b37.stable I35 hlo1)
          have S37 := (S33.trans st35).trans (b37.stable (lo := L + 1) I35 hlo1)
          obtain ⟨F37, p37, q37, fz37, N37, P37⟩ := after_stepA b37 [] Z F35 N35 (fun _ hx => by cases hx)
          have hgg37 : ∀ (i : Nat) (x : GenState), s.gens[i]? = some x → s37.gens[i]? = some x := fun i y e => b37.gens i y (b33.gens i y (hj.gens i y e))
          have hgb37 : AllBare s.gens → AllBare s37.gens := fun e => b37.bare (b33.bare (hj.bare e))
          have hgo37 : s37.os = s.os := b37.os.trans (b33.os.trans hj.os)
          clear F35 N35
          show wpAny _ _ _ _ _ _
          k_fold
          k_steps
          refine ne_tree (d := 30) hTv3 hTv2 hrok2 hrdep (hA1.le (by decide)) ?_
          k_steps
          rename Fr _ _ _ _ => F39
          rename News _ _ _ _ => N39
          have S39 := S37.trans (P37.stable (lo := L + 1) Z F39 N39 (by intro y hy; simp [hy]) (Nat.lt_succ_self L))
          obtain ⟨⟨oi, hoi, ri⟩, ⟨oa, hoa, ra'⟩⟩ := st₁
          exact ⟨⟨_, F39, hj.rows.keeps fun b o hb e => S39 b o e (.inl hb.1), hgg37, hgb37, hgo37⟩, Pt.inv Z P37 F39 N39 (by walk_at "m_fz") (by walk_at "m_tab") (by walk_at "m_tab"), ⟨oi, S39 _ _ hoi (.inl hL27), ri⟩, ⟨oa, S39 _ _ hoa (.inl hLrl), ra'⟩⟩
        · obtain ⟨p1, q1, fz1, N2, P2⟩ := renew Z F' (own := []) News.nil (fun _ hx => by cases hx) I'
          clear F27 N27 P27 kp27 hrows hrows2
          show wpAny _ _ _ _ _ _
          k_steps
          rename Fr _ _ _ _ => F39
          rename News _ _ _ _ => N39
          exact hR _ _ (fin (s' := Shared.mk _ _ _ _ _) Z F39 (Pt.inv Z P2 F39 N39 (by walk_at "m_fz") (by walk_at "m_tab") (by walk_at "m_tab")) hj.gens hj.bare hj.os) rfl
end Mine

end
section
open PySem PySem.W PyProof.Rows PySem.Calls PySem.Spec
namespace Mine
theorem list_exact {P : Params} {h : Heap} {l : Addr} {vs : List Value} {d : PyData} {ds : List PyData} (hd : d = .list ds) (w1 : Well P h (.ref l) (ofPy d)) (hL : h.IsList l vs.toArray) : LAt h l vs 0 := by
  subst hd
  obtain ⟨o, ho, hc, n, hdd⟩ := hL
  have w2 : Well P h (.ref l) (.list (ofPys ds)) := w1
  cases w2 with
  | list e _ =>
    rw [e] at ho; cases ho
    cases hdd
    exact e
theorem top_end {c : P0} {cw : ClaimW} {cl : Str → Option Addr} {mean : ExcName → Option Value} {args : List WData} {s₁ s' : Shared} (hT : TabsAt [(48, 44), (55, 51)] s₁.heap) (a : After c s₁ s') (hg0 : s₁.gens = #[]) (hn : ∀ cls, cw.raises args cls = false) (hp : cw.post args (.bool true) args = true) :
    GoodWG cw cl mean args s₁ (.ok (.ret (.bool true))) s' := by
  have t44 := hT (48, 44) (by simp)
  have t51 := hT (55, 51) (by simp)
  refine ⟨.inl ⟨.bool true, .bool true, [], rfl, hn, .bool true, hp, fun _ => ⟨List.nodup_nil, fun _ h => nomatch h⟩⟩, ⟨fun b o e => ?_, fun b o e => ?_⟩, a.os, a.bare (.of_eq hg0)⟩
  · by_cases h1 : b = 44
    · subst h1
      have e2 := t44.2
      rw [e] at e2; cases e2
      obtain ⟨ps, hP, _⟩ := a.inv.t44
      exact .inr (.inl ⟨(t44.1.tab t44.2).isCodeTable, rfl, #[], ps, rfl, by rw [Array.empty_append]; exact hP⟩)
    · by_cases h2 : b = 51
      · subst h2
        have e2 := t51.2
        rw [e] at e2; cases e2
        obtain ⟨ps, hP, _⟩ := a.inv.t51
        exact .inr (.inl ⟨(t51.1.tab t51.2).isCodeTable, rfl, #[], ps, rfl, by rw [Array.empty_append]; exact hP⟩)
      · exact .inl (a.ext b o e h1 h2)
  · by_cases h1 : b = 44
    · subst h1; obtain ⟨ps, hP, _⟩ := a.inv.t44; exact ⟨_, hP⟩
    · by_cases h2 : b = 51
      · subst h2; obtain ⟨ps, hP, _⟩ := a.inv.t51; exact ⟨_, hP⟩
      · exact ⟨o, a.ext b o e h1 h2⟩
theorem tab_empty {spec : List (Pos × Str)} {h : Heap} : Tab spec h #[] := ⟨trivial, fun x _ v e => by cases e⟩
set_option maxRecDepth 100000 in
set_option maxHeartbeats 4000000 in
theorem top_law : PySem.Challenge.rw_ph0043_01.Holds := hd (by
  k_fill
  intro w s₀ s₁ mg mb G Y fa o pm cd doc dV kV ho hdd hcd hD hmg hg args vals as hpre hlay hrd hwl hlo
  have KX := km_in_of Y
  have hT8 := km_tabs_of Y
  have V := (Ground.X G).2
  refine Ground.open G ?_
  intro T B D TE TW
  have hfa : fa = 87 := by
    have e := mg_of KX T.g (n := Str.ofString "law") (v := .ref 87) (by k_is)
    have := e.symm.trans hmg
    cases this; rfl
  clear hmg
  wrow_args hpre hlay hrd hwl hlo
  refine enter_call ?_
  clear hdd hcd hD
  have hT9 : TabsAt [(48, 44), (55, 51)] s₁.heap := List.forall_mem_cons.mpr ⟨⟨codeHd_of_K (c := 48) (P := 44) KX (by kernel_rfl), hT8 44 (by k_mem)⟩, List.forall_mem_cons.mpr ⟨⟨codeHd_of_K (c := 55) (P := 51) KX (by kernel_rfl), hT8 51 (by k_mem)⟩, fun _ h => nomatch h⟩⟩
  rename Heap.IsList _ _ _ => hL
  rename Well _ _ _ _ => w1
  rename IntsAre _ _ => hI
  have hLat := list_exact rfl w1 hL
  subst hfa
  let c : P0 := ⟨w, _, _, mg, mb, ghostOf s₁.heap [(48, 44), (55, 51)], ghost_K hT9 KX (by kernel_rfl), ghost_top hT9 T, hideAll_none _ (by simp), hideAll_none _ (by simp), by rw [hideAll_size]; exact Heap.lt_size (hT8 51 (by k_mem))⟩
  have Inv0 : Inv c s₁.heap := ⟨fun b o e => of_hideAll _ e, Nat.le_of_eq (hideAll_size _ _), ⟨#[], hT8 44 (by k_mem), tab_empty⟩, ⟨#[], hT8 51 (by k_mem), tab_empty⟩⟩
  refine law_spec c callerA s₁ _ _ _ 0 ?_ ?_ hLat hI (by omega) Inv0 ⟨rfl, by decide, by decide⟩ _ (fun v s' a hv => ?_)
  · intro z; rw [z] at hLat; have e2 := hT8 44 (by k_mem); rw [show s₁.heap.get? 44 = _ from hLat] at e2; cases e2
  · intro z; rw [z] at hLat; have e2 := hT8 51 (by k_mem); rw [show s₁.heap.get? 51 = _ from hLat] at e2; cases e2
  · subst hv
    refine top_end hT9 a hg (fun _ => rfl) ?_
    wrow_post)
end Mine

end
end
set_option maxRecDepth 100000 in
set_option maxHeartbeats 8000000 in
theorem PySem.Challenge.cw_ph0043_01_holds : PySem.Challenge.rw_ph0043_01.Holds := by
  exact Mine.top_law
