import PyProof.Rows.All
import Wide.All
import OpenK.AllK
import Wide.FinOn
import PySem.Challenge.RW_ft5005_01
open PySem PySem.W PyProof.Rows
set_option Elab.async false
set_option linter.unusedVariables false
set_option maxRecDepth 100000
set_option maxHeartbeats 8000000
open_top hd for PySem.Challenge.rw_ft5005_01
set_option pp.deepTerms false
set_option pp.maxSteps 3000
open PySem.Calls

namespace Mine
abbrev Pg : Program := PySem.Challenge.pw_ft5005_01

structure Cx where
  w : World
  hT : Heap
  os : OsState
  dr : Drawn
  loose : List Str
  mg : Str → Option Value
  mb : Str → Option Value
  inK : (hd.heap_39 w.params).In hT
  top : TopRead hd.view_39 loose mg mb hT
  bmain : ∃ bm ob, mg "__builtins__" = some (.ref bm) ∧ bm ≠ builtinsNs ∧ hT.get? bm = some ob ∧ ob.cls = .type "module" ∧ ob.dict = some builtinsNs ∧ ob.data = .plain
  c87 : CodeHd hT 89 87
  c138 : CodeHd hT 140 138

abbrev Cx.M (X : Cx) : Model := model Pg X.w
abbrev Ent := Addr × (Obj → Prop)
abbrev NoE : Value → Shared → Prop := fun _ _ => False

structure Rm (A : Around) (k : Nat) : Prop where
  hh : A.handled = none
  hd : A.depth + k < recursionLimit
  hu : A.units + 3 * k + 3 < cLine
theorem Rm.le {A : Around} {k j : Nat} (R : Rm A k) (h : j ≤ k) : Rm A j := ⟨R.hh, by have := R.hd; omega, by have := R.hu; omega⟩
theorem Rm.deeper {A : Around} {k : Nat} (R : Rm A (k + 1)) (env : Env) : Rm (A.deeper env) k :=
  ⟨R.hh, by have := R.hd; show A.depth + 1 + k < _; omega, by have := R.hu; show A.units + 3 + 3 * k + 3 < _; omega⟩
theorem Rm.in1 {A : Around} {k : Nat} (R : Rm A (k + 1)) : Rm A.in1 k :=
  ⟨R.hh, by have := R.hd; show A.depth + k < _; omega, by have := R.hu; show A.units + 1 + 3 * k + 3 < _; omega⟩
theorem Rm.d {A : Around} {k : Nat} (R : Rm A k) : A.depth < recursionLimit := by have := R.hd; omega
theorem Rm.u {A : Around} {k : Nat} (R : Rm A k) : A.units < cLine := by have := R.hu; omega
theorem Rm.u1 {A : Around} {k : Nat} (R : Rm A k) : A.units + 1 < cLine := by have := R.hu; omega
theorem Rm.u2 {A : Around} {k : Nat} (R : Rm A k) : A.units + 2 < cLine := by have := R.hu; omega

structure St (X : Cx) (g : Array GenState) (s : Shared) (l : List Ent) : Prop where
  keep : ∀ b o, X.hT.get? b = some o → s.heap.get? b = some o
  get : ∀ p ∈ l, ∃ o, s.heap.get? p.1 = some o ∧ p.2 o
  new : ∀ p ∈ l, X.hT.get? p.1 = none
  nd : (l.map (·.1)).Nodup
  os : s.os = X.os
  gens : s.gens = g
  dr : s.drawn = X.dr

inductive UpdE (a : Addr) (P P' : Obj → Prop) : List Ent → List Ent → Prop
  | here {r} : UpdE a P P' ((a, P) :: r) ((a, P') :: r)
  | there {p r r'} : UpdE a P P' r r' → UpdE a P P' (p :: r) (p :: r')
theorem UpdE.split {a : Addr} {P P' : Obj → Prop} {l l' : List Ent} (U : UpdE a P P' l l') : ∃ x y, l = x ++ (a, P) :: y ∧ l' = x ++ (a, P') :: y := by
  induction U with
  | @here r => exact ⟨[], r, rfl, rfl⟩
  | @there p r r' _ ih => obtain ⟨x, y, rfl, rfl⟩ := ih; exact ⟨p :: x, y, rfl, rfl⟩
theorem UpdE.mem {a : Addr} {P P' : Obj → Prop} {l l' : List Ent} (U : UpdE a P P' l l') : (a, P) ∈ l := by
  obtain ⟨x, y, rfl, rfl⟩ := U.split; simp
theorem UpdE.of_mem {a : Addr} {P P' : Obj → Prop} : ∀ {l : List Ent}, (a, P) ∈ l → ∃ l', UpdE a P P' l l'
  | _ :: _, .head _ => ⟨_, .here⟩
  | _ :: _, .tail _ h => let ⟨l', U⟩ := UpdE.of_mem h; ⟨_, .there U⟩

section
variable {X : Cx} {g : Array GenState} {s : Shared} {l l' : List Ent}
theorem St.mem (S : St X g s l) {a : Addr} {P : Obj → Prop} (h : (a, P) ∈ l) : ∃ o, s.heap.get? a = some o ∧ P o := S.get _ h
theorem St.lt (S : St X g s l) {p : Ent} (h : p ∈ l) : p.1 < s.heap.objs.size := let ⟨_, ho, _⟩ := S.get _ h; Heap.lt_size ho

theorem St.step (S : St X g s l) {s' : Shared} (hl : ∀ p ∈ l', p ∈ l) (hn : (l'.map (·.1)).Nodup) {D : Addr → Prop}
    (hk : ∀ b o, ¬ D b → s.heap.get? b = some o → s'.heap.get? b = some o) (hD : ∀ b, D b → X.hT.get? b = none) (hDl : ∀ p ∈ l', ¬ D p.1)
    (ho : s'.os = s.os := by rfl) (hg : s'.gens = s.gens := by rfl) (hdr : s'.drawn = s.drawn := by rfl) : St X g s' l' where
  keep b o e := hk b o (fun hb => by rw [hD b hb] at e; cases e) (S.keep b o e)
  get p hp := let ⟨o, h1, h2⟩ := S.get p (hl p hp); ⟨o, hk _ _ (hDl p hp) h1, h2⟩
  new p hp := S.new p (hl p hp)
  nd := hn
  os := ho.trans S.os
  gens := hg.trans S.gens
  dr := hdr.trans S.dr

theorem St.all (S : St X g s l) {s' : Shared} (hk : ∀ b o, s.heap.get? b = some o → s'.heap.get? b = some o) (ho : s'.os = s.os := by rfl) (hg : s'.gens = s.gens := by rfl) (hdr : s'.drawn = s.drawn := by rfl) : St X g s' l :=
  S.step (D := fun _ => False) (fun _ h => h) S.nd (fun b o _ e => hk b o e) (fun _ h => h.elim) (fun _ _ h => h) ho hg hdr
theorem St.tok (S : St X g s l) (t : Nat) : St X g { s with toks := t } l := S.all fun _ _ e => e

theorem St.pick (S : St X g s l) (hl : ∀ p ∈ l', p ∈ l) (hn : (l'.map (·.1)).Nodup) : St X g s l' :=
  S.step (D := fun _ => False) hl hn (fun _ _ _ e => e) (fun _ h => h.elim) fun _ _ h => h
theorem St.sub (S : St X g s l) (h : l'.Sublist l) : St X g s l' := S.pick (fun _ hp => h.subset hp) ((h.map (·.1)).nodup S.nd)
theorem St.perm (S : St X g s l) (h : l.Perm l') : St X g s l' := S.pick (fun _ hp => h.mem_iff.mpr hp) ((h.map (·.1)).nodup_iff.mp S.nd)

/-- a new entry, the heap only grown -/
theorem St.add (S : St X g s l) {s' : Shared} {a : Addr} {P : Obj → Prop} {o : Obj} (hk : ∀ b o, s.heap.get? b = some o → s'.heap.get? b = some o) (hf : s.heap.get? a = none)
    (ha : s'.heap.get? a = some o) (hP : P o) (hl : ∀ p ∈ l, p.1 ≠ a) (ho : s'.os = s.os := by rfl) (hg : s'.gens = s.gens := by rfl) (hdr : s'.drawn = s.drawn := by rfl) : St X g s' ((a, P) :: l) where
  keep b o e := hk b o (S.keep b o e)
  get p hp := by
    rcases List.mem_cons.mp hp with rfl | hp
    · exact ⟨o, ha, hP⟩
    · obtain ⟨o, h1, h2⟩ := S.get p hp; exact ⟨o, hk _ _ h1, h2⟩
  new p hp := by
    rcases List.mem_cons.mp hp with rfl | hp
    · cases q : X.hT.get? a with
      | none => rfl
      | some o => rw [S.keep _ _ q] at hf; cases hf
    · exact S.new p hp
  nd := by
    rw [List.map_cons, List.nodup_cons]
    refine ⟨fun h => ?_, S.nd⟩
    obtain ⟨p, hp, e⟩ := List.mem_map.mp h
    exact hl p hp e
  os := ho.trans S.os
  gens := hg.trans S.gens
  dr := hdr.trans S.dr
theorem St.ne_size (S : St X g s l) : ∀ p ∈ l, p.1 ≠ s.heap.objs.size := fun _ hp => Nat.ne_of_lt (S.lt hp)
theorem none_size {h : Heap} {a : Addr} (ha : h.objs.size ≤ a) : h.get? a = none := by
  cases q : h.get? a with
  | none => rfl
  | some o => exact absurd (Heap.lt_size q) (Nat.not_lt.mpr ha)
theorem St.push (S : St X g s l) {o : Obj} {P : Obj → Prop} (hP : P o) (hf : o.isFreed = false := by rfl) : St X g { s with heap := s.heap.push o } ((s.heap.objs.size, P) :: l) :=
  S.add (s' := { s with heap := s.heap.push o }) (fun _ _ e => Heap.get?_push_of_some _ e) (none_size (Nat.le_refl _)) (Heap.get?_push_size _ hf) hP S.ne_size
theorem St.swap (S : St X g s (p :: q :: l)) : St X g s (q :: p :: l) := S.perm (List.Perm.swap ..)
/-- behind the head -/
theorem St.push2 {f : Ent} (S : St X g s (f :: l)) {o : Obj} {P : Obj → Prop} (hP : P o) (hf : o.isFreed = false := by rfl) : St X g { s with heap := s.heap.push o } (f :: (s.heap.objs.size, P) :: l) := (S.push hP hf).swap

theorem St.upd (S : St X g s l) {a : Addr} {P P' : Obj → Prop} {s' : Shared} {o : Obj} (U : UpdE a P P' l l') (hk : ∀ b o, b ≠ a → s.heap.get? b = some o → s'.heap.get? b = some o)
    (ha : s'.heap.get? a = some o) (hP : P' o) (ho : s'.os = s.os := by rfl) (hg : s'.gens = s.gens := by rfl) (hdr : s'.drawn = s.drawn := by rfl) : St X g s' l' := by
  obtain ⟨x, y, rfl, rfl⟩ := U.split
  have nd := S.nd
  have hm : (x ++ (a, P') :: y).map (·.1) = (x ++ (a, P) :: y).map (·.1) := by simp
  have hne : ∀ p, p ∈ x ∨ p ∈ y → p.1 ≠ a := by
    intro p hp e
    simp only [List.map_append, List.map_cons, List.nodup_append, List.nodup_cons] at nd
    rcases hp with hp | hp
    · exact nd.2.2 p.1 (List.mem_map_of_mem hp) a (by simp) e
    · exact nd.2.1.1 (e ▸ List.mem_map_of_mem hp)
  have hnT : X.hT.get? a = none := S.new (a, P) (by simp)
  refine ⟨fun b o e => hk b o (fun hb => by rw [hb, hnT] at e; cases e) (S.keep b o e), fun p hp => ?_, fun p hp => ?_, hm ▸ nd, ho.trans S.os, hg.trans S.gens, hdr.trans S.dr⟩
  · rcases List.mem_append.mp hp with hp | hp
    · obtain ⟨o, h1, h2⟩ := S.get p (List.mem_append_left _ hp); exact ⟨o, hk _ _ (hne p (.inl hp)) h1, h2⟩
    · rcases List.mem_cons.mp hp with rfl | hp
      · exact ⟨o, ha, hP⟩
      · obtain ⟨o, h1, h2⟩ := S.get p (List.mem_append_right _ (List.mem_cons_of_mem _ hp)); exact ⟨o, hk _ _ (hne p (.inr hp)) h1, h2⟩
  · rcases List.mem_append.mp hp with hp | hp
    · exact S.new p (List.mem_append_left _ hp)
    · rcases List.mem_cons.mp hp with rfl | hp
      · exact hnT
      · exact S.new p (List.mem_append_right _ (List.mem_cons_of_mem _ hp))
theorem St.updB (S : St X g s l) {a : Addr} {P P' : Obj → Prop} {h' : Heap} {t : Nat} {o : Obj} (U : UpdE a P P' l l') (hs : Heap.SameBut a s.heap h') (ha : h'.get? a = some o) (hP : P' o) : St X g { s with heap := h', toks := t } l' :=
  S.upd (s' := { s with heap := h', toks := t }) U (fun b o hb e => hs.extBut b o hb e) ha hP
/-- the same heap, less known of one -/
theorem St.wk (S : St X g s l) {a : Addr} {P P' : Obj → Prop} (U : UpdE a P P' l l') (hi : ∀ o, P o → P' o) : St X g s l' := by
  obtain ⟨o, h1, h2⟩ := S.mem U.mem
  exact S.upd (s' := s) U (fun _ _ _ e => e) h1 (hi _ h2)
/-- the head is let go: its object may be anything -/
theorem St.drop {a : Addr} {P : Obj → Prop} (S : St X g s ((a, P) :: l)) {s' : Shared} (hk : ∀ b o, b ≠ a → s.heap.get? b = some o → s'.heap.get? b = some o) (ho : s'.os = s.os := by rfl) (hg : s'.gens = s.gens := by rfl) (hdr : s'.drawn = s.drawn := by rfl) : St X g s' l := by
  have nd := S.nd
  rw [List.map_cons, List.nodup_cons] at nd
  exact S.step (D := fun b => b = a) (fun p hp => List.mem_cons_of_mem _ hp) nd.2 (fun b o hb e => hk b o hb e) (fun b hb => hb ▸ S.new (a, P) (.head _)) (fun p hp e => nd.1 (List.mem_map.mpr ⟨p, hp, e⟩)) ho hg hdr
end

/-! what an object is -/
def NsHas (b : List (Str × Value)) (o : Obj) : Prop := ∃ es ep, o.data = .dict es ep ∧ StrKeys es ∧ ∀ x v, b.lookup x = some v → nsFind es x = some v
def CellHas (v : Option Value) (o : Obj) : Prop := o.data = .cell v
def TupIs (items : List Value) (o : Obj) : Prop := ∃ n, o = { cls := .type "tuple", data := .seq items.toArray n }
def ListIs (items : List Value) (o : Obj) : Prop := ∃ n, o = { cls := .type "list", data := .seq items.toArray n }
def RowIs (r : List Int) (o : Obj) : Prop := ∃ its, TupIs its o ∧ IntsAre its r
def DictIs (X : Cx) (xs : List (List Int × Addr × Value)) (o : Obj) : Prop := ∃ ep, o = { cls := .type "dict", data := .dict (xs.map (entryOfKey (tupleKind (intKind Pg X.w)))).toArray ep }
def Is (o' : Obj) (o : Obj) : Prop := o = o'

section
variable {X : Cx} {g : Array GenState} {s : Shared} {l l' : List Ent} {A : Around} {E : Value → Shared → Prop} {env : Env}
theorem St.ns (S : St X g s l) {L : Addr} {b : List (Str × Value)} (h : (L, NsHas b) ∈ l) : ∃ m, s.heap.Ns L m ∧ ∀ x v, b.lookup x = some v → m x = some v := by
  obtain ⟨o, ho, es, ep, hd, hk, hb⟩ := S.mem h
  exact ⟨nsFind es, ⟨o, es, ep, ho, hd, hk, fun _ => rfl⟩, hb⟩
theorem NsHas.of_ns {h : Heap} {L : Addr} {m : Str → Option Value} (hn : h.Ns L m) {b : List (Str × Value)} (hb : ∀ x v, b.lookup x = some v → m x = some v) : ∃ o, h.get? L = some o ∧ NsHas b o := by
  obtain ⟨o, es, ep, ho, hd, hk, hm⟩ := hn
  exact ⟨o, ho, es, ep, hd, hk, fun x v e => (hm x).trans (hb x v e)⟩
theorem NsHas.wk {b b' : List (Str × Value)} (h : ∀ p ∈ b', b.lookup p.1 = some p.2) (o : Obj) (x : NsHas b o) : NsHas b' o := by
  obtain ⟨es, ep, hd, hk, hb⟩ := x
  refine ⟨es, ep, hd, hk, fun x v e => hb x v ?_⟩
  have : (x, v) ∈ b' := mem_of_lookup e
  exact h _ this

/-- a name of the frame is read -/
theorem w_local {x : Str} {pos : Pos} {v : Value} {b : List (Str × Value)} {Q : Value → Shared → Prop} (S : St X g s ((env.locals, NsHas b) :: l)) (hb : b.lookup x = some v) (h : Q v s)
    (hk : env.scope.kind = .function := by rfl) (hx : env.kindOf x = some .local := by rfl) (hd : (x == ("__debug__" : Str)) = false := by decide) : wpAny X.M A (eval (.Name x pos) env) Q E s := by
  obtain ⟨m, hn, hm⟩ := S.ns (.head _)
  exact wpAny_Name (wpAny_loadName_local hk hx hn (hm _ _ hb) h) hd
theorem w_store {x : Str} {v : Value} {b : List (Str × Value)} {Q : Unit → Shared → Prop} (S : St X g s ((env.locals, NsHas b) :: l)) (h : ∀ s', St X g s' ((env.locals, NsHas ((x, v) :: b)) :: l) → Q () s')
    (hx : env.kindOf x = some .local := by rfl) (hp : (env.scope.kind == .class || (env.scope.kind == .module && env.locals != env.globals)) = false := by rfl) : wpAny X.M A (storeName env x v) Q E s := by
  obtain ⟨m, hn, hm⟩ := S.ns (.head _)
  refine wpAny_storeName_local hx hn (fun h' hn' hs' => h _ ?_) hp
  obtain ⟨o, ho, hP⟩ := NsHas.of_ns (b := (x, v) :: b) hn' (fun y u e => by
    rw [List.lookup_cons] at e
    by_cases hy : y = x
    · subst hy; simp at e; subst e; simp
    · have : (y == x) = false := by simpa using hy
      rw [this] at e; simp only [hy, if_false]; exact hm _ _ e)
  exact S.updB .here hs' ho hP

theorem w_cell {x : Str} {pos : Pos} {c : Addr} {v : Value} {Q : Value → Shared → Prop} (S : St X g s l) (hc : env.cells.lookup x = some c) (hm : (c, CellHas (some v)) ∈ l) (h : Q v s)
    (hk : env.scope.kind = .function := by rfl) (hx : env.kindOf x = some .cell := by rfl) (hd : (x == ("__debug__" : Str)) = false := by decide) : wpAny X.M A (eval (.Name x pos) env) Q E s := by
  obtain ⟨o, ho, hv⟩ := S.mem hm
  exact wpAny_Name (wpAny_loadName_cell hk hx hc ⟨o, ho, hv⟩ h) hd
theorem w_free {x : Str} {pos : Pos} {c : Addr} {v : Value} {Q : Value → Shared → Prop} (S : St X g s l) (hc : env.cells.lookup x = some c) (hm : (c, CellHas (some v)) ∈ l) (h : Q v s)
    (hk : env.scope.kind = .function := by rfl) (hx : env.kindOf x = some .free := by rfl) (hd : (x == ("__debug__" : Str)) = false := by decide) (hn : (x == ("__classdict__" : Str)) = false := by decide) : wpAny X.M A (eval (.Name x pos) env) Q E s := by
  obtain ⟨o, ho, hv⟩ := S.mem hm
  exact wpAny_Name (wpAny_loadName_free hk hx hc ⟨o, ho, hv⟩ h hn) hd
theorem w_storeCell {x : Str} {v : Value} {c : Addr} {v₀ : Option Value} {Q : Unit → Shared → Prop} (S : St X g s l) (hc : env.cells.lookup x = some c) (U : UpdE c (CellHas v₀) (CellHas (some v)) l l') (h : ∀ s', St X g s' l' → Q () s')
    (hk : env.scope.kind = .function := by rfl) (hx : env.kindOf x = some .cell := by rfl) : wpAny X.M A (storeName env x v) Q E s := by
  obtain ⟨o, ho, hv⟩ := S.mem U.mem
  refine wpAny_storeName_cell hk hx hc ⟨o, ho, hv⟩ fun h' hv' hs' => h _ ?_
  obtain ⟨o', ho', hd'⟩ := hv'
  exact S.upd (s' := { s with heap := h' }) U (fun b o hb e => hs'.extBut b o hb e) ho' hd'

theorem w_global {x : Str} {pos : Pos} {v : Value} {Q : Value → Shared → Prop} (S : St X g s l) (e : nsIn (hd.heap_39 X.w.params) mainGlobals x = some (some v)) (h : Q v s)
    (hk : env.scope.kind = .function := by rfl) (hx : env.kindOf x = some .globalImplicit := by rfl) (hg : env.globals = mainGlobals := by rfl) (hd : (x == ("__debug__" : Str)) = false := by decide) : wpAny X.M A (eval (.Name x pos) env) Q E s :=
  Name_function_global hk hx (loadGlobal_global (env := env) (hg ▸ X.top.g.keeps S.keep) (mg_of X.inK X.top.g e) h) hd
theorem w_builtin {x : Str} {pos : Pos} {v : Value} {Q : Value → Shared → Prop} (S : St X g s l) (e : nsIn (hd.heap_39 X.w.params) mainGlobals x = some none) (hv : bootBuiltins x = some v) (h : Q v s) (hn : x ≠ "__name__" := by decide)
    (hk : env.scope.kind = .function := by rfl) (hx : env.kindOf x = some .globalImplicit := by rfl) (hg : env.globals = mainGlobals := by rfl) (hb : env.builtins = builtinsNs := by rfl) (hd : (x == ("__debug__" : Str)) = false := by decide) : wpAny X.M A (eval (.Name x pos) env) Q E s :=
  Name_function_global hk hx (loadGlobal_builtin (env := env) (hg ▸ X.top.g.keeps S.keep) (mg_none_of X.inK X.top.g e) (hb ▸ X.top.b.keeps S.keep) ((X.top.builtins x hn).trans hv) h) hd
end
end Mine

namespace Mine

def LIterIs (ax : Addr) (i : Nat) (o : Obj) : Prop := o.cls = .type "list_iterator" ∧ o.data = .fields #[.ref ax, .int i 0]
def RIterIs (x left step : Int) (o : Obj) : Prop := o = { cls := .type "range_iterator", dict := none, data := .fields #[rawInt x, rawInt left, rawInt step], slots := #[] }
def RangeIs (a b c : Int) (o : Obj) : Prop := ∃ t u v, o = { cls := .type "range", dict := none, data := .fields #[.int a t, .int b u, .int c v], slots := #[] }

structure It (X : Cx) (A : Around) (I : Addr) (n : Nat) (V : Nat → Value → Prop) (Sti : Nat → Obj → Prop) (need : List Ent) : Prop where
  item : ∀ {g i s l} {Q : Option Value → Shared → Prop} {E : Value → Shared → Prop}, i < n → St X g s ((I, Sti i) :: l) → (∀ p ∈ need, p ∈ l) → (∀ v s', V i v → St X g s' ((I, Sti (i + 1)) :: l) → Q (some v) s') → wpAny X.M A (pyNext (.ref I)) Q E s
  done : ∀ {g s l} {Q : Option Value → Shared → Prop} {E : Value → Shared → Prop}, St X g s ((I, Sti n) :: l) → (∀ p ∈ need, p ∈ l) → (∀ s', St X g s' l → Q none s') → wpAny X.M A (pyNext (.ref I)) Q E s
  self : ∀ {g i s l} {Q : Value → Shared → Prop} {E : Value → Shared → Prop}, St X g s ((I, Sti i) :: l) → Q (.ref I) s → wpAny X.M A (pyIter (.ref I)) Q E s

section
variable {X : Cx} {g : Array GenState} {s : Shared} {l l' : List Ent} {A : Around} {E : Value → Shared → Prop} {env : Env}

theorem St.isList (S : St X g s l) {a : Addr} {items : List Value} (h : (a, ListIs items) ∈ l) : s.heap.IsList a items.toArray := by
  obtain ⟨o, ho, n, rfl⟩ := S.mem h
  exact ⟨_, ho, rfl, n, rfl⟩
theorem St.plainList (S : St X g s l) {a : Addr} {items : List Value} (h : (a, ListIs items) ∈ l) : s.heap.PlainList a items.toArray := by
  obtain ⟨o, ho, n, rfl⟩ := S.mem h
  exact ⟨n, ho⟩

theorem It.list (hh : A.handled = none) (I ax : Addr) (items : List Value) : It X A I items.length (fun i v => items[i]? = some v) (LIterIs ax) [(ax, ListIs items)] where
  item := by
    intro g i s l Q E hi S hn hQ
    obtain ⟨o, ho, hc, hd⟩ := S.mem (.head _)
    have hl := S.isList (List.mem_cons_of_mem _ (hn _ (.head _)))
    refine wpAny_pyNext_list_item (x := items[i]) ⟨o, ho, hc, hd⟩ hl (by simp [hi]) fun h' hit' hs' => hQ _ _ (by simp [hi]) ?_
    obtain ⟨o', ho', hc', hd'⟩ := hit'
    exact S.upd (s' := { s with heap := h' }) .here (fun b o hb e => hs'.extBut b o hb e) ho' ⟨hc', hd'⟩
  done := by
    intro g s l Q E S hn hQ
    obtain ⟨o, ho, hc, hd⟩ := S.mem (.head _)
    have hl := S.isList (List.mem_cons_of_mem _ (hn _ (.head _)))
    exact wpAny_pyNext_list_end hh ⟨o, ho, hc, hd⟩ hl (by simp) fun h' he' => hQ _ (S.drop (s' := { s with heap := h' }) fun b o hb e => he' b o hb e)
  self := by
    intro g i s l Q E S h
    obtain ⟨o, ho, hc, hd⟩ := S.mem (.head _)
    exact wpAny_pyIter_listiter ⟨o, ho, hc, hd⟩ h

theorem It.range (hh : A.handled = none) (I : Addr) (a c : Int) (n : Nat) : It X A I n (fun i v => ∃ t, v = .int (a + i * c) t) (fun i => RIterIs (a + (i : Nat) * c) ((n : Int) - (i : Nat)) c) [] where
  item := by
    intro g i s l Q E hi S hn hQ
    obtain ⟨o, ho, rfl⟩ := S.mem (.head _)
    refine wpAny_pyNext_range_item (x := a + (i : Nat) * c) (left := (n : Int) - (i : Nat)) (step := c) ho (by omega) fun h' hit' hs' => hQ _ _ ⟨_, rfl⟩ ?_
    refine S.updB .here hs' hit' ?_
    have e1 : a + ((i + 1 : Nat) : Int) * c = a + (i : Int) * c + c := by push_cast; rw [Int.add_mul, Int.one_mul, Int.add_assoc]
    have e2 : (n : Int) - ((i + 1 : Nat) : Int) = (n : Int) - (i : Int) - 1 := by push_cast; omega
    rw [e1, e2]; rfl
  done := by
    intro g s l Q E S hn hQ
    obtain ⟨o, ho, rfl⟩ := S.mem (.head _)
    exact wpAny_pyNext_range_end (x := a + (n : Nat) * c) (left := (n : Int) - (n : Nat)) (step := c) hh ho (by omega) fun h' he' => hQ _ (S.drop (s' := { s with heap := h' }) fun b o hb e => he' b o hb e)
  self := by
    intro g i s l Q E S h
    obtain ⟨o, ho, rfl⟩ := S.mem (.head _)
    exact wpAny_pyIter_rangeiter (x := a + (i : Nat) * c) (left := (n : Int) - (i : Nat)) (step := c) ho h

/-- the iterator of a list is made -/
theorem w_iterList {f : Ent} {ax : Addr} {items : List Value} {Q : Value → Shared → Prop} (S : St X g s l) (hm : (ax, ListIs items) ∈ l)
    (h : ∀ I s', St X g s' ((I, LIterIs ax 0) :: l) → Q (.ref I) s') : wpAny X.M A (pyIter (.ref ax)) Q E s :=
  wpAny_pyIter_list (S.isList hm) (h _ _ (S.push ⟨rfl, rfl⟩))
theorem w_iterRange {r : Addr} {a b c : Int} {n : Nat} {Q : Value → Shared → Prop} (S : St X g s l) (hm : (r, RangeIs a b c) ∈ l) (hsm : Builtin.Range.small a b c = true) (hn : Builtin.Range.rangeSize a b c = n)
    (h : ∀ I s', St X g s' ((I, RIterIs (a + ((0 : Nat) : Int) * c) ((n : Int) - (0 : Nat)) c) :: l) → Q (.ref I) s') : wpAny X.M A (pyIter (.ref r)) Q E s := by
  obtain ⟨o, ho, t, u, v, rfl⟩ := S.mem hm
  refine wpAny_pyIter_range ho hsm (h _ _ (S.push ?_))
  rw [hn]; simp [RIterIs]

/-- a for over an iterator, its target a name -/
theorem w_forLoop {I : Addr} {n : Nat} {V : Nat → Value → Prop} {Sti : Nat → Obj → Prop} {need : List Ent} (T : It X A I n V Sti need) {x : Str} {px : Pos} {body : List Stmt} {R : Result → Shared → Prop} {b₀ : List (Str × Value)}
    (J : Nat → List (Str × Value) → List Ent → Prop) (hJ : ∀ i b l, J i b l → ∀ p ∈ need, p ∈ l) (S : St X g s ((I, Sti 0) :: (env.locals, NsHas b₀) :: l)) (h0 : J 0 b₀ l)
    (turn : ∀ i v b l s, i < n → V i v → J i b l → St X g s ((env.locals, NsHas ((x, v) :: b)) :: (I, Sti (i + 1)) :: l) →
      wpAny X.M A (execs body env) (fun f s' => match f with
        | .next | .cont => ∃ b' l', J (i + 1) b' l' ∧ St X g s' ((env.locals, NsHas b') :: (I, Sti (i + 1)) :: l')
        | .brk => R (.ok .next) s'
        | .ret v => R (.ok (.ret v)) s') NoE s)
    (done : ∀ b l s, J n b l → St X g s ((env.locals, NsHas b) :: l) → R (.ok .next) s)
    (hx : env.kindOf x = some .local := by rfl) (hp : (env.scope.kind == .class || (env.scope.kind == .module && env.locals != env.globals)) = false := by rfl) :
    codeAny X.M A (.forLoop (.Name x px) (.ref I) body [] env) R s := by
  refine codeAny_forLoop (fun k s' => ∃ i b l, i ≤ n ∧ k = n + 1 - i ∧ J i b l ∧ St X g s' ((I, Sti i) :: (env.locals, NsHas b) :: l)) ?_ (n + 1) ⟨0, b₀, l, Nat.zero_le _, rfl, h0, S⟩
  rintro k s' ⟨i, b, l₁, hi, rfl, hj, S'⟩
  have hneed : ∀ p ∈ need, p ∈ (env.locals, NsHas b) :: l₁ := fun p hp => List.mem_cons_of_mem _ (hJ _ _ _ hj p hp)
  by_cases hlt : i < n
  · refine T.item hlt S' hneed fun v s₂ hv S₂ => ?_
    refine wpAny_assign_Name (w_store S₂.swap (fun s₃ S₃ => ?_) hx hp)
    refine wpAny_mono (turn i v b l₁ s₃ hlt hv hj S₃) (fun f s₄ h₄ => ?_) fun _ _ e => e.elim
    have fin : (∃ b' l', J (i + 1) b' l' ∧ St X g s₄ ((env.locals, NsHas b') :: (I, Sti (i + 1)) :: l')) → ∃ m, m < n + 1 - i ∧ ∃ i b l, i ≤ n ∧ m = n + 1 - i ∧ J i b l ∧ St X g s₄ ((I, Sti i) :: (env.locals, NsHas b) :: l) := by
      rintro ⟨b', l', hj', S₄⟩
      exact ⟨n + 1 - (i + 1), by omega, i + 1, b', l', hlt, rfl, hj', S₄.swap⟩
    cases f with
    | next => exact fin h₄
    | cont => exact fin h₄
    | brk => exact h₄
    | ret v => exact h₄
  · have hin : i = n := by omega
    subst hin
    exact T.done S' hneed fun s₂ S₂ => wpAny_execs_nil (done b l₁ s₂ hj S₂)

/-- the statement -/
theorem w_For {Q : Flow → Shared → Prop} {x : Str} {px pos : Pos} {iter : Expr} {body : List Stmt}
    (h : wpAny X.M A (eval iter env) (fun v s₁ => wpAny X.M A (pyIter v) (fun it s₂ => codeAny X.M A (.forLoop (.Name x px) it body [] env) (fun r s' => match r with | .ok f => Q f s' | .error e => False) s₂) E s₁) E s)
    (hs : ∀ x, foldedSetIterable iter env x = pure x := by intro _; rfl) : wpAny X.M A (exec (.For (.Name x px) iter body [] pos) env) Q E s := by
  refine wpAny_For (wpAny_mono h (fun v s₁ h₁ => wpAny_mono h₁ (fun it s₂ h₂ => codeAny_mono h₂ fun r s' hr => ?_) fun _ _ e => e) fun _ _ e => e) hs
  cases r with
  | ok f => exact hr
  | error e => exact hr.elim

/-- a while by an invariant and a measure -/
theorem w_While {Q : Flow → Shared → Prop} {test : Expr} {body : List Stmt} {pos : Pos} (I : Nat → Shared → Prop) (n : Nat) (h0 : I n s)
    (turn : ∀ n s, I n s → wpAny X.M A (isTrue test env (eval test env)) (fun b s₂ =>
        if b then wpAny X.M A (execs body env) (fun f s₃ => match f with
            | .next | .cont => ∃ m, m < n ∧ I m s₃
            | .brk => Q .next s₃
            | .ret v => Q (.ret v) s₃) NoE s₂
        else Q .next s₂) NoE s) : wpAny X.M A (exec (.While test body [] pos) env) Q E s := by
  refine wpAny_While ?_
  refine codeAny_whileLoop I (fun n s hI => ?_) n h0
  refine wpAny_mono (turn n s hI) (fun b s₂ hb => ?_) fun _ _ e => e.elim
  cases b with
  | true =>
    simp only [if_true] at hb ⊢
    refine wpAny_mono hb (fun f s₃ h₃ => ?_) fun _ _ e => e.elim
    cases f <;> exact h₃
  | false =>
    simp only [Bool.false_eq_true, if_false] at hb ⊢
    exact wpAny_execs_nil hb
end

/-! comprehensions -/
section
variable {X : Cx} {g : Array GenState} {s : Shared} {l l' : List Ent} {A : Around} {E : Value → Shared → Prop} {env : Env}

theorem w_append {D : Addr} {ys : List Value} {y : Value} {Q : Value → Shared → Prop} (S : St X g s l) (U : UpdE D (ListIs ys) (ListIs (ys ++ [y])) l l') (hz : ys.length ≤ sizeLine)
    (h : ∀ s', St X g s' l' → Q .none s') : wpAny X.M A (call (.builtin "list.append") [.ref D, y]) Q E s := by
  refine wpAny_list_append_plain (S.plainList U.mem) (fun h' hp hs => h _ ?_) (by simpa using hz)
  obtain ⟨n, hn⟩ := hp
  exact S.upd (s' := { s with heap := h' }) U (fun b o hb e => hs.extBut b o hb e) hn ⟨n, by simp⟩

abbrev testsOf (ifs : List Expr) (cenv : Env) : Sem Bool := forIn ifs true fun c r => if r = true then do let ok ← isTrue c cenv (eval c cenv); pure (ForInStep.yield ok) else pure (ForInStep.yield r)

/-- one clause, its target a name -/
theorem w_compLoop {I D : Addr} {n : Nat} {V : Nat → Value → Prop} {Sti : Nat → Obj → Prop} {need : List Ent} (T : It X A I n V Sti need) {x : Str} {px : Pos} {elt iter : Expr} {ifs : List Expr} {scope : Scope} {pos : Pos}
    {R : Result → Shared → Prop} {cenv : Env} (J : Nat → List Value → List Ent → Prop) (hJ : ∀ i ys l, J i ys l → (∀ p ∈ need, p ∈ l) ∧ ys.length ≤ sizeLine)
    (S : St X g s ((cenv.locals, NsHas []) :: (I, Sti 0) :: (D, ListIs []) :: l)) (h0 : J 0 [] l)
    (turn : ∀ i v ys l s, i < n → V i v → J i ys l → St X g s ((cenv.locals, NsHas [(x, v)]) :: (I, Sti (i + 1)) :: (D, ListIs ys) :: l) →
      wpAny X.M A (testsOf ifs cenv) (fun ok s₂ => if ok = true then wpAny X.M A (eval elt cenv) (fun y s₃ => ∃ l', J (i + 1) (ys ++ [y]) l' ∧ St X g s₃ ((cenv.locals, NsHas []) :: (I, Sti (i + 1)) :: (D, ListIs ys) :: l')) NoE s₂
        else ∃ l', J (i + 1) ys l' ∧ St X g s₂ ((cenv.locals, NsHas []) :: (I, Sti (i + 1)) :: (D, ListIs ys) :: l')) NoE s)
    (done : ∀ ys l s, J n ys l → St X g s ((cenv.locals, NsHas []) :: (D, ListIs ys) :: l) → R (.ok .next) s)
    (hx : cenv.kindOf x = some .local) (hp : (cenv.scope.kind == .class || (cenv.scope.kind == .module && cenv.locals != cenv.globals)) = false) :
    codeAny X.M A (.compLoop (.ListComp elt [⟨.Name x px, iter, ifs, 0⟩] scope pos) 0 (.ref I) (.ref D) cenv) R s := by
  refine codeAny_compLoop_tests (fun k s' => ∃ i ys l, i ≤ n ∧ k = n + 1 - i ∧ J i ys l ∧ St X g s' ((I, Sti i) :: (cenv.locals, NsHas []) :: (D, ListIs ys) :: l)) ?_ (n + 1) ⟨0, [], l, Nat.zero_le _, rfl, h0, S.swap⟩
  rintro k s' ⟨i, ys, l₁, hi, rfl, hj, S'⟩
  have hneed : ∀ p ∈ need, p ∈ (cenv.locals, NsHas []) :: (D, ListIs ys) :: l₁ := fun p hp => List.mem_cons_of_mem _ (List.mem_cons_of_mem _ ((hJ _ _ _ hj).1 p hp))
  by_cases hlt : i < n
  · refine T.item hlt S' hneed fun v s₂ hv S₂ => ?_
    refine wpAny_assign_Name (w_store S₂.swap (fun s₃ S₃ => ?_) hx hp)
    refine wpAny_mono (turn i v ys l₁ s₃ hlt hv hj S₃) (fun ok s₄ h₄ => ?_) fun _ _ e => e.elim
    cases ok with
    | false =>
      simp only [Bool.false_eq_true, if_false] at h₄ ⊢
      obtain ⟨l', hj', S₄⟩ := h₄
      exact ⟨n + 1 - (i + 1), by omega, i + 1, ys, l', hlt, rfl, hj', S₄.swap⟩
    | true =>
      simp only [if_true] at h₄ ⊢
      refine wpAny_mono h₄ (fun y s₅ h₅ => ?_) fun _ _ e => e.elim
      obtain ⟨l', hj', S₅⟩ := h₅
      exact w_append S₅ (.there (.there .here)) (hJ _ _ _ hj).2 fun s₆ S₆ => ⟨n + 1 - (i + 1), by omega, i + 1, ys ++ [y], l', hlt, rfl, hj', S₆.swap⟩
  · have hin : i = n := by omega
    subst hin
    exact T.done S' hneed fun s₂ S₂ => done ys l₁ s₂ hj S₂
end
end Mine

namespace Mine

section
variable {X : Cx} {g : Array GenState} {s : Shared} {l l' : List Ent} {A : Around} {E : Value → Shared → Prop} {env : Env}

/-- the run of a comprehension behind its first iterator -/
def CompGo (X : Cx) (A : Around) (env : Env) (e : Expr) (scope : Scope) (cl : List (Str × Addr)) (use : Option (Value → Sem Unit)) (Q : Value → Shared → Prop) (E : Value → Shared → Prop) (it : Value) (s : Shared) : Prop :=
  wpAny X.M A (newList []) (fun acc s₃ => wpAny X.M A (newFunctionEnv scope env.globals cl [] env.qual none .none (some env)) (fun cenv s₄ =>
    codeAny X.M A (.compStart e 0 it acc { cenv with scope := relabel scope env }) (compPost X.M A E use Q acc cenv.locals) s₄) E s₃) E s

theorem w_ListComp {elt target iter : Expr} {ifs : List Expr} {gs : List Comprehension} {scope : Scope} {pos : Pos} {cl : List (Str × Addr)} {Q : Value → Shared → Prop}
    (hclos : closureFor scope env = pure cl)
    (h : wpAny X.M A (eval iter env) (fun xv s₁ => wpAny X.M A (pyIter xv) (fun it s₂ => CompGo X A env (.ListComp elt (⟨target, iter, ifs, 0⟩ :: gs) scope pos) scope cl none Q E it s₂) E s₁) E s)
    (hkind : scope.kind = .function := by rfl) (hnames : ∀ x ∈ scope.names, x.2 = .local → scope.names.lookup x.1 = some .local := by decide)
    (hs : ∀ x, foldedSetIterable iter env x = pure x := by intro _; rfl) :
    wpAny X.M A (eval (.ListComp elt (⟨target, iter, ifs, 0⟩ :: gs) scope pos) env) Q E s := by
  rw [eval_ListComp]
  exact wpAny_comprehension_free (use := none) rfl hs hclos hkind hnames h

/-- an assignment whose stores are exchanged with the comprehension's end -/
theorem w_Assign_ListComp {elt target iter : Expr} {ifs : List Expr} {gs : List Comprehension} {scope : Scope} {pos spos : Pos} {cl : List (Str × Addr)} {y : Str} {py : Pos} {Q : Flow → Shared → Prop}
    (hsw : swapsWith (.ListComp elt (⟨target, iter, ifs, 0⟩ :: gs) scope pos) (some (.Name y py)) spos.line env = pure true)
    (hclos : closureFor scope env = pure cl)
    (h : wpAny X.M A (eval iter env) (fun xv s₁ => wpAny X.M A (pyIter xv) (fun it s₂ => CompGo X A env (.ListComp elt (⟨target, iter, ifs, 0⟩ :: gs) scope pos) scope cl (some (assign (.Name y py) env)) (fun _ s' => Q .next s') E it s₂) E s₁) E s)
    (hkind : scope.kind = .function := by rfl) (hnames : ∀ x ∈ scope.names, x.2 = .local → scope.names.lookup x.1 = some .local := by decide)
    (hs : ∀ x, foldedSetIterable iter env x = pure x := by intro _; rfl) :
    wpAny X.M A (exec (.Assign [.Name y py] (.ListComp elt (⟨target, iter, ifs, 0⟩ :: gs) scope pos) spos) env) Q E s := by
  rw [exec_Assign_Name_used _ _ _ _ hsw]
  refine wpAny_bind (wpAny_standAt (wpAny_bind ?_))
  show wpAny _ A (do let _ ← comprehension (.ListComp elt (⟨target, iter, ifs, 0⟩ :: gs) scope pos) scope env _ (newList []) false (eval iter env) (some (assign (.Name y py) env))) _ _ s
  exact wpAny_bind (wpAny_mono (wpAny_comprehension_free (use := some (assign (.Name y py) env)) (Q := fun _ s' => Q .next s') rfl hs hclos hkind hnames h) (fun _ s' hq => wpAny_pure (wpAny_pure hq)) fun _ _ e => e)

theorem codeAny_compStart0 {elt target iter ifs rest scope pos it acc env} {R : Result → Shared → Prop}
    (h0 : codeAny X.M A (.compLoop (.ListComp elt (⟨target, iter, ifs, 0⟩ :: rest) scope pos) 0 it acc env) R s)
    (h : wpAny X.M A (pyIter it) (fun it' s' => codeAny X.M A (.compLoop (.ListComp elt (⟨target, iter, ifs, 0⟩ :: rest) scope pos) 0 it' acc env) R s') NoE s) :
    codeAny X.M A (.compStart (.ListComp elt (⟨target, iter, ifs, 0⟩ :: rest) scope pos) 0 it acc env) R s :=
  codeAny_compStart_list h0 (wpAny_mono h (fun _ _ x => x) fun _ _ e => e.elim)

/-- the head of a comprehension's run: the list, the block's own frame -/
theorem w_compGo {I : Addr} {n : Nat} {V : Nat → Value → Prop} {Sti : Nat → Obj → Prop} {need : List Ent} (T : It X A I n V Sti need) {elt target iter : Expr} {ifs : List Expr} {gs : List Comprehension} {scope : Scope} {pos : Pos}
    {cl : List (Str × Addr)} {use : Option (Value → Sem Unit)} {Q : Value → Shared → Prop} (S : St X g s ((I, Sti 0) :: l))
    (h : ∀ C D s', St X g s' ((C, NsHas []) :: (I, Sti 0) :: (D, ListIs []) :: l) →
      codeAny X.M A (.compLoop (.ListComp elt (⟨target, iter, ifs, 0⟩ :: gs) scope pos) 0 (.ref I) (.ref D) (compEnvC scope cl C env)) (compPost X.M A E use Q (.ref D) C) s')
    (hcell : ∀ y ∈ scope.names, y.2 ≠ .cell := by decide) (hkind : scope.kind = .function := by rfl) :
    CompGo X A env (.ListComp elt (⟨target, iter, ifs, 0⟩ :: gs) scope pos) scope cl use Q E (.ref I) s := by
  unfold CompGo
  refine wpAny_newObj_type ?_ (by size_fits)
  refine wpAny_newFunctionEnv hcell (by intro y hy; simp at hy) (fun h₁ hns₁ hsb₁ => ?_) hkind
  have S1 := S.push (o := { cls := .type "list", data := .seq ([] : List Value).toArray }) (P := ListIs []) ⟨0, rfl⟩
  generalize hs1 : ({ s with heap := s.heap.push { cls := .type "list", data := .seq ([] : List Value).toArray } } : Shared) = s1 at S1 hns₁ hsb₁ ⊢
  have S2 : St X g { s1 with heap := h₁, toks := s1.toks + ([] : List (Str × Value)).length } ((s1.heap.objs.size, NsHas []) :: (s.heap.objs.size, ListIs []) :: (I, Sti 0) :: l) := by
    obtain ⟨o, ho, hP⟩ := NsHas.of_ns (b := []) hns₁ (fun x v e => by cases e)
    exact S1.add (s' := { s1 with heap := h₁, toks := s1.toks + ([] : List (Str × Value)).length }) (fun b o e => hsb₁.extBut b o (Nat.ne_of_lt (Heap.lt_size e)) (Heap.get?_push_of_some _ e)) (none_size (Nat.le_refl _)) ho hP S1.ne_size
  have S3 := S2.perm ((List.Perm.swap (I, Sti 0) (s.heap.objs.size, ListIs []) l).cons (s1.heap.objs.size, NsHas []))
  have L := h _ _ _ S3
  exact codeAny_compStart0 L (T.self S3.swap L)

theorem compPost_none {D C : Addr} {Q : Value → Shared → Prop} (S : St X g s ((C, NsHas []) :: l)) (h : ∀ s', St X g s' l → Q (.ref D) s') : compPost X.M A E none Q (.ref D) C (.ok .next) s := by
  obtain ⟨m, hn, _⟩ := S.ns (.head _)
  exact ⟨m, hn, fun h' hs => h _ (S.drop (s' := { s with heap := h' }) fun b o hb e => hs.extBut b o hb e)⟩
theorem compPost_use {D C : Addr} {y : Str} {py : Pos} {b : List (Str × Value)} {Q : Value → Shared → Prop} (S : St X g s ((C, NsHas []) :: (env.locals, NsHas b) :: l)) (h : ∀ s', St X g s' ((env.locals, NsHas ((y, .ref D) :: b)) :: l) → Q .none s')
    (hx : env.kindOf y = some .local := by rfl) (hp : (env.scope.kind == .class || (env.scope.kind == .module && env.locals != env.globals)) = false := by rfl) :
    compPost X.M A E (some (assign (.Name y py) env)) Q (.ref D) C (.ok .next) s := by
  show wpAny _ _ (assign (.Name y py) env (.ref D)) _ _ _
  refine wpAny_assign_Name (w_store S.swap (fun s' S' => ?_) hx hp)
  obtain ⟨m, hn, _⟩ := S'.ns (.tail _ (.head _))
  exact ⟨m, hn, fun h' hs => h _ (S'.swap.drop (s' := { s' with heap := h' }) fun b o hb e => hs.extBut b o hb e)⟩

/-! two clauses -/
theorem compTurn_two0 (elt t0 i0 t1 i1 : Expr) (ifs1 : List Expr) (scope : Scope) (pos : Pos) (it acc : Value) (env : Env) :
    compTurn (.ListComp elt [⟨t0, i0, [], 0⟩, ⟨t1, i1, ifs1, 0⟩] scope pos) 0 it acc env = (do
      standAt i0.pos
      match ← pyNext it with
      | none => pure (.done .next)
      | some v =>
        letOwnedTupleGo t0 it v
        assign t0 env v
        let x ← eval i1 env
        standAt i1.pos
        let x ← foldedSetIterable i1 env x
        let _ ← runOwn (.compStart (.ListComp elt [⟨t0, i0, [], 0⟩, ⟨t1, i1, ifs1, 0⟩] scope pos) 1 (← holding [x] (pyIter x)) acc env) env
        again (.compLoop (.ListComp elt [⟨t0, i0, [], 0⟩, ⟨t1, i1, ifs1, 0⟩] scope pos) 0 it acc env)) := by rfl
theorem compTurn_two1 (elt t0 i0 t1 i1 : Expr) (ifs1 : List Expr) (scope : Scope) (pos : Pos) (it acc : Value) (env : Env) :
    compTurn (.ListComp elt [⟨t0, i0, [], 0⟩, ⟨t1, i1, ifs1, 0⟩] scope pos) 1 it acc env = (do
      standAt i1.pos
      match ← pyNext it with
      | none => pure (.done .next)
      | some v =>
        letOwnedTupleGo t1 it v
        assign t1 env v
        let mut ok := true
        for c in ifs1 do
          if ok then ok ← isTrue c env (eval c env)
        if ok then
          (do let _ ← call (.builtin "list.append") [acc, ← eval elt env])
        again (.compLoop (.ListComp elt [⟨t0, i0, [], 0⟩, ⟨t1, i1, ifs1, 0⟩] scope pos) 1 it acc env)) := by rfl

theorem noted_of {α : Type} {A : Around} {env : Env} {m : Sem α} {Q : α → Shared → Prop} {s : Shared} {E : Value → Shared → Prop} (h : wpAny X.M A m Q NoE s) : wpAny X.M A m Q (notedBy X.M A env E) s := wpAny_mono h (fun _ _ x => x) fun _ _ e => e.elim

theorem codeAny_two0 {elt i0 t1 i1 : Expr} {x0 : Str} {px0 : Pos} {ifs1 : List Expr} {scope : Scope} {pos : Pos} {it acc : Value} {env : Env} {R : Result → Shared → Prop} (I : Nat → Shared → Prop)
    (turn : ∀ n s, I n s → wpAny X.M A (pyNext it) (fun r s₁ => match r with
      | none => R (.ok .next) s₁
      | some v => wpAny X.M A (storeName env x0 v) (fun _ s₂ => wpAny X.M A (eval i1 env) (fun x s₃ => wpAny X.M A (pyIter x) (fun it' s₄ =>
          codeAny X.M A (.compStart (.ListComp elt [⟨.Name x0 px0, i0, [], 0⟩, ⟨t1, i1, ifs1, 0⟩] scope pos) 1 it' acc env) (fun r s₅ => match r with | .ok _ => ∃ m, m < n ∧ I m s₅ | .error _ => False) s₄) NoE s₃) NoE s₂) NoE s₁) NoE s)
    (n : Nat) (h : I n s) (hs : ∀ x, foldedSetIterable i1 env x = pure x := by intro _; rfl) :
    codeAny X.M A (.compLoop (.ListComp elt [⟨.Name x0 px0, i0, [], 0⟩, ⟨t1, i1, ifs1, 0⟩] scope pos) 0 it acc env) R s := by
  refine codeAny_loop rfl I (fun n s hI => ?_) n h
  show wpAny _ A ((compTurn (.ListComp elt [⟨.Name x0 px0, i0, [], 0⟩, ⟨t1, i1, ifs1, 0⟩] scope pos) 0 it acc env).onRaise (fun x => do noteFrame x env; theTreesLotGoes x)) _ _ s
  refine wpAny_noted ?_
  rw [compTurn_two0]
  refine wpAny_bind (wpAny_standAt (wpAny_bind (noted_of (wpAny_mono (turn n s hI) (fun r s₁ h₁ => ?_) fun _ _ e => e))))
  cases r with
  | none => exact wpAny_pure h₁
  | some v =>
    refine wpAny_bind (wpAny_of_eq (show letOwnedTupleGo (.Name x0 px0) it v = pure () from rfl) ?_)
    refine wpAny_bind (wpAny_assign_Name (wpAny_mono h₁ (fun _ s₂ h₂ => ?_) fun _ _ e => e.elim))
    refine wpAny_bind (wpAny_mono h₂ (fun x s₃ h₃ => wpAny_bind (wpAny_standAt (wpAny_bind (wpAny_of_eq (hs x) (wpAny_bind (wpAny_holding (wpAny_mono h₃ (fun it' s₄ h₄ => ?_) fun _ _ e => e.elim))))))) fun _ _ e => e.elim)
    refine wpAny_bind (wpAny_runOwn (codeAny_mono h₄ fun r s₅ h₅ => ?_))
    cases r with
    | ok f => exact wpAny_pure ⟨rfl, h₅⟩
    | error e => exact h₅.elim

theorem codeAny_two1 {elt t0 i0 i1 : Expr} {x1 : Str} {px1 : Pos} {ifs1 : List Expr} {scope : Scope} {pos : Pos} {it acc : Value} {env : Env} {R : Result → Shared → Prop} (I : Nat → Shared → Prop)
    (turn : ∀ n s, I n s → wpAny X.M A (pyNext it) (fun r s₁ => match r with
      | none => R (.ok .next) s₁
      | some v => wpAny X.M A (storeName env x1 v) (fun _ s₂ => wpAny X.M A (testsOf ifs1 env) (fun ok s₃ =>
            if ok = true then wpAny X.M A (eval elt env) (fun x s₄ => wpAny X.M A (call (.builtin "list.append") [acc, x]) (fun _ s₅ => ∃ m, m < n ∧ I m s₅) NoE s₄) NoE s₃
            else ∃ m, m < n ∧ I m s₃) NoE s₂) NoE s₁) NoE s)
    (n : Nat) (h : I n s) :
    codeAny X.M A (.compLoop (.ListComp elt [⟨t0, i0, [], 0⟩, ⟨.Name x1 px1, i1, ifs1, 0⟩] scope pos) 1 it acc env) R s := by
  refine codeAny_loop rfl I (fun n s hI => ?_) n h
  show wpAny _ A ((compTurn (.ListComp elt [⟨t0, i0, [], 0⟩, ⟨.Name x1 px1, i1, ifs1, 0⟩] scope pos) 1 it acc env).onRaise (fun x => do noteFrame x env; theTreesLotGoes x)) _ _ s
  refine wpAny_noted ?_
  rw [compTurn_two1]
  refine wpAny_bind (wpAny_standAt (wpAny_bind (noted_of (wpAny_mono (turn n s hI) (fun r s₁ h₁ => ?_) fun _ _ e => e))))
  cases r with
  | none => exact wpAny_pure h₁
  | some v =>
    refine wpAny_bind (wpAny_of_eq (show letOwnedTupleGo (.Name x1 px1) it v = pure () from rfl) ?_)
    refine wpAny_bind (wpAny_assign_Name (wpAny_mono h₁ (fun _ s₂ h₂ => ?_) fun _ _ e => e.elim))
    refine wpAny_bind (wpAny_mono h₂ (fun ok s₃ h₃ => ?_) fun _ _ e => e.elim)
    cases ok with
    | false => exact wpAny_pure ⟨rfl, h₃⟩
    | true =>
      exact wpAny_bind (wpAny_bind (wpAny_mono h₃ (fun x s₄ h₄ => wpAny_bind (wpAny_mono h₄ (fun _ s₅ h₅ => wpAny_pure (wpAny_pure ⟨rfl, h₅⟩)) fun _ _ e => e.elim)) fun _ _ e => e.elim))

theorem codeAny_compStart1 {elt t0 i0 t1 i1 : Expr} {ifs1 : List Expr} {scope : Scope} {pos : Pos} {it acc : Value} {env : Env} {R : Result → Shared → Prop}
    (h0 : codeAny X.M A (.compLoop (.ListComp elt [⟨t0, i0, [], 0⟩, ⟨t1, i1, ifs1, 0⟩] scope pos) 1 it acc env) R s)
    (h : wpAny X.M A (pyIter it) (fun it' s' => codeAny X.M A (.compLoop (.ListComp elt [⟨t0, i0, [], 0⟩, ⟨t1, i1, ifs1, 0⟩] scope pos) 1 it' acc env) R s') NoE s) :
    codeAny X.M A (.compStart (.ListComp elt [⟨t0, i0, [], 0⟩, ⟨t1, i1, ifs1, 0⟩] scope pos) 1 it acc env) R s := by
  refine codeAny_of_tree ?_
  show wpAny _ _ ((compStart (.ListComp elt [⟨t0, i0, [], 0⟩, ⟨t1, i1, ifs1, 0⟩] scope pos) 1 it acc env).onRaise (fun x => do noteFrame x env; standAt theWindowsPlace)) _ _ s
  refine wpAny_notedAt (noted_of ?_)
  unfold compStart
  show wpAny _ _ (ask >>= _) _ _ s
  refine wpAny_bind (wpAny_askSetting (wpAny_ite ?_))
  split
  · first
      | exact wpAny_bind (wpAny_pure (wpAny_pure (And.intro rfl h0)))
      | exact wpAny_pure (And.intro rfl h0)
  · refine wpAny_bind (wpAny_rule ?_)
    show wpAny _ _ (standAt i1.pos >>= _) _ _ s
    exact wpAny_bind (wpAny_standAt (wpAny_bind (wpAny_mono h (fun it' s' h' => wpAny_pure (And.intro rfl h')) fun _ _ x => x)))

/-- the inner clause, all of its turns -/
theorem w_compLoop1 {I D : Addr} {n : Nat} {V : Nat → Value → Prop} {Sti : Nat → Obj → Prop} {need : List Ent} (T : It X A I n V Sti need) {elt t0 i0 i1 : Expr} {x : Str} {px : Pos} {ifs : List Expr} {scope : Scope} {pos : Pos}
    {R : Result → Shared → Prop} {cenv : Env} {b : List (Str × Value)} {ys₀ : List Value} (J : Nat → List Value → List Ent → Prop) (hJ : ∀ i ys l, J i ys l → (∀ p ∈ need, p ∈ l) ∧ ys.length ≤ sizeLine)
    (S : St X g s ((cenv.locals, NsHas b) :: (I, Sti 0) :: (D, ListIs ys₀) :: l)) (h0 : J 0 ys₀ l)
    (turn : ∀ i v ys l s, i < n → V i v → J i ys l → St X g s ((cenv.locals, NsHas ((x, v) :: b)) :: (I, Sti (i + 1)) :: (D, ListIs ys) :: l) →
      wpAny X.M A (testsOf ifs cenv) (fun ok s₂ => if ok = true then wpAny X.M A (eval elt cenv) (fun y s₃ => ∃ l', J (i + 1) (ys ++ [y]) l' ∧ St X g s₃ ((cenv.locals, NsHas b) :: (I, Sti (i + 1)) :: (D, ListIs ys) :: l')) NoE s₂
        else ∃ l', J (i + 1) ys l' ∧ St X g s₂ ((cenv.locals, NsHas b) :: (I, Sti (i + 1)) :: (D, ListIs ys) :: l')) NoE s)
    (done : ∀ ys l s, J n ys l → St X g s ((cenv.locals, NsHas b) :: (D, ListIs ys) :: l) → R (.ok .next) s)
    (hx : cenv.kindOf x = some .local) (hp : (cenv.scope.kind == .class || (cenv.scope.kind == .module && cenv.locals != cenv.globals)) = false) :
    codeAny X.M A (.compStart (.ListComp elt [⟨t0, i0, [], 0⟩, ⟨.Name x px, i1, ifs, 0⟩] scope pos) 1 (.ref I) (.ref D) cenv) R s := by
  have L : codeAny X.M A (.compLoop (.ListComp elt [⟨t0, i0, [], 0⟩, ⟨.Name x px, i1, ifs, 0⟩] scope pos) 1 (.ref I) (.ref D) cenv) R s := by
    refine codeAny_two1 (fun k s' => ∃ i ys l, i ≤ n ∧ k = n + 1 - i ∧ J i ys l ∧ St X g s' ((I, Sti i) :: (cenv.locals, NsHas b) :: (D, ListIs ys) :: l)) ?_ (n + 1) ⟨0, ys₀, l, Nat.zero_le _, rfl, h0, S.swap⟩
    rintro k s' ⟨i, ys, l₁, hi, rfl, hj, S'⟩
    have hneed : ∀ p ∈ need, p ∈ (cenv.locals, NsHas b) :: (D, ListIs ys) :: l₁ := fun p hp => List.mem_cons_of_mem _ (List.mem_cons_of_mem _ ((hJ _ _ _ hj).1 p hp))
    by_cases hlt : i < n
    · refine T.item hlt S' hneed fun v s₂ hv S₂ => ?_
      refine w_store S₂.swap (fun s₃ S₃ => ?_) hx hp
      refine wpAny_mono (turn i v ys l₁ s₃ hlt hv hj S₃) (fun ok s₄ h₄ => ?_) fun _ _ e => e
      cases ok with
      | false =>
        simp only [Bool.false_eq_true, if_false] at h₄ ⊢
        obtain ⟨l', hj', S₄⟩ := h₄
        exact ⟨n + 1 - (i + 1), by omega, i + 1, ys, l', hlt, rfl, hj', S₄.swap⟩
      | true =>
        simp only [if_true] at h₄ ⊢
        refine wpAny_mono h₄ (fun y s₅ h₅ => ?_) fun _ _ e => e
        obtain ⟨l', hj', S₅⟩ := h₅
        exact w_append S₅ (.there (.there .here)) (hJ _ _ _ hj).2 fun s₆ S₆ => ⟨n + 1 - (i + 1), by omega, i + 1, ys ++ [y], l', hlt, rfl, hj', S₆.swap⟩
    · have hin : i = n := by omega
      subst hin
      exact T.done S' hneed fun s₂ S₂ => done ys l₁ s₂ hj S₂
  exact codeAny_compStart1 L (T.self S.swap L)

/-- the outer clause -/
theorem w_compLoop0 {I D : Addr} {n : Nat} {V : Nat → Value → Prop} {Sti : Nat → Obj → Prop} {need : List Ent} (T : It X A I n V Sti need) {elt i0 t1 i1 : Expr} {x : Str} {px : Pos} {ifs : List Expr} {scope : Scope} {pos : Pos}
    {R : Result → Shared → Prop} {cenv : Env} (J : Nat → List Value → List Ent → Prop) (hJ : ∀ i ys l, J i ys l → (∀ p ∈ need, p ∈ l))
    (S : St X g s ((cenv.locals, NsHas []) :: (I, Sti 0) :: (D, ListIs []) :: l)) (h0 : J 0 [] l)
    (turn : ∀ i v ys l s, i < n → V i v → J i ys l → St X g s ((cenv.locals, NsHas [(x, v)]) :: (I, Sti (i + 1)) :: (D, ListIs ys) :: l) →
      wpAny X.M A (eval i1 cenv) (fun xv s₃ => wpAny X.M A (pyIter xv) (fun it' s₄ =>
          codeAny X.M A (.compStart (.ListComp elt [⟨.Name x px, i0, [], 0⟩, ⟨t1, i1, ifs, 0⟩] scope pos) 1 it' (.ref D) cenv)
            (fun r s₅ => match r with | .ok _ => ∃ ys' l', J (i + 1) ys' l' ∧ St X g s₅ ((cenv.locals, NsHas []) :: (I, Sti (i + 1)) :: (D, ListIs ys') :: l') | .error _ => False) s₄) NoE s₃) NoE s)
    (done : ∀ ys l s, J n ys l → St X g s ((cenv.locals, NsHas []) :: (D, ListIs ys) :: l) → R (.ok .next) s)
    (hx : cenv.kindOf x = some .local) (hp : (cenv.scope.kind == .class || (cenv.scope.kind == .module && cenv.locals != cenv.globals)) = false) (hs : ∀ x, foldedSetIterable i1 cenv x = pure x := by intro _; rfl) :
    codeAny X.M A (.compLoop (.ListComp elt [⟨.Name x px, i0, [], 0⟩, ⟨t1, i1, ifs, 0⟩] scope pos) 0 (.ref I) (.ref D) cenv) R s := by
  refine codeAny_two0 (fun k s' => ∃ i ys l, i ≤ n ∧ k = n + 1 - i ∧ J i ys l ∧ St X g s' ((I, Sti i) :: (cenv.locals, NsHas []) :: (D, ListIs ys) :: l)) ?_ (n + 1) ⟨0, [], l, Nat.zero_le _, rfl, h0, S.swap⟩ hs
  rintro k s' ⟨i, ys, l₁, hi, rfl, hj, S'⟩
  have hneed : ∀ p ∈ need, p ∈ (cenv.locals, NsHas []) :: (D, ListIs ys) :: l₁ := fun p hp => List.mem_cons_of_mem _ (List.mem_cons_of_mem _ (hJ _ _ _ hj p hp))
  by_cases hlt : i < n
  · refine T.item hlt S' hneed fun v s₂ hv S₂ => ?_
    refine w_store S₂.swap (fun s₃ S₃ => ?_) hx hp
    refine wpAny_mono (turn i v ys l₁ s₃ hlt hv hj S₃) (fun xv s₄ h₄ => wpAny_mono h₄ (fun it' s₅ h₅ => codeAny_mono h₅ fun r s₆ h₆ => ?_) fun _ _ e => e) fun _ _ e => e
    cases r with
    | error e => exact h₆
    | ok f =>
      obtain ⟨ys', l', hj', S₆⟩ := h₆
      exact ⟨n + 1 - (i + 1), by omega, i + 1, ys', l', hlt, rfl, hj', S₆.swap⟩
  · have hin : i = n := by omega
    subst hin
    exact T.done S' hneed fun s₂ S₂ => done ys l₁ s₂ hj S₂
end
end Mine

namespace Mine

def retOf : Flow → Value
  | .ret v => v
  | _ => .none
def cellEnts (cs : List (Str × Addr)) (cm : Str → Option Value) : List Ent := cs.map fun x => (x.2, CellHas (cm x.1))

theorem bindL_is (kindOf : Str → Option NameKind) : ∀ (binds : List (Str × Value)) (m : Str → Option Value) (x : Str), bindL kindOf binds m x = (((binds.filter fun y => kindOf y.1 == some .local).reverse.lookup x).or (m x))
  | [], m, x => by simp [bindL]
  | (n, v) :: r, m, x => by
    rw [bindL, bindL_is kindOf r]
    by_cases h : kindOf n = some .local
    · simp only [List.filter_cons, h, beq_self_eq_true, if_true, List.reverse_cons, List.lookup_append]
      by_cases hx : x = n
      · subst hx; cases List.lookup x (List.filter (fun y => kindOf y.1 == some NameKind.local) r).reverse <;> simp [List.lookup_cons]
      · have : (x == n) = false := by simpa using hx
        cases List.lookup x (List.filter (fun y => kindOf y.1 == some NameKind.local) r).reverse <;> simp [List.lookup_cons, this, hx]
    · have hb : (kindOf n == some .local) = false := by simpa using h
      simp only [List.filter_cons, hb, Bool.false_eq_true, if_false, h]
theorem bindC_is (kindOf : Str → Option NameKind) : ∀ (binds : List (Str × Value)) (m : Str → Option Value) (x : Str), bindC kindOf binds m x = (((binds.filter fun y => !(kindOf y.1 == some .local)).reverse.lookup x).or (m x))
  | [], m, x => by simp [bindC]
  | (n, v) :: r, m, x => by
    rw [bindC, bindC_is kindOf r]
    by_cases h : kindOf n = some .local
    · simp only [List.filter_cons, h, beq_self_eq_true, if_true, Bool.not_true, Bool.false_eq_true, if_false]
    · have hb : (kindOf n == some .local) = false := by simpa using h
      simp only [List.filter_cons, hb, Bool.not_false, if_true, List.reverse_cons, List.lookup_append, h, if_false]
      by_cases hx : x = n
      · subst hx; cases List.lookup x (List.filter (fun y => !(kindOf y.1 == some NameKind.local)) r).reverse <;> simp [List.lookup_cons]
      · have : (x == n) = false := by simpa using hx
        cases List.lookup x (List.filter (fun y => !(kindOf y.1 == some NameKind.local)) r).reverse <;> simp [List.lookup_cons, this, hx]

section
variable {X : Cx} {g : Array GenState} {s : Shared} {l l' : List Ent} {A : Around} {E : Value → Shared → Prop} {env : Env}

/-- a def without cells is called -/
theorem w_fn {k : Nat} {f : Addr} {fo : Obj} {fd : FuncData} {body : List Stmt} {pos : List Value} {kw : List (Str × Value)} {binds : List (Str × Value)} {Q : Value → Shared → Prop} (S : St X g s l) (R : Rm A k)
    (ho : s.heap.get? f = some fo) (hd : fo.data = .func fd) (hbody : fd.body = .stmts body) (hcd : s.heap.CodeRec fd.code fd.qualname) (hbind : BindsTo s fd ⟨pos, kw⟩ binds)
    (h : ∀ L s', St X g s' ((L, NsHas binds.reverse) :: l) → wpAny X.M (A.deeper (callEnv fd L f)) (execs body (callEnv fd L f)) (fun fl s'' => Q (retOf fl) s'') NoE s')
    (hloc : ∀ y ∈ binds, fd.scope.names.lookup y.1 = some .local) (hcell : ∀ x ∈ fd.scope.names, x.2 ≠ .cell) (hco : fd.scope.isCoroutine = false) (hgen : fd.scope.isGenerator = false) (hk : fd.scope.kind = .function) :
    wpAny X.M A (call (.ref f) pos kw) Q E s := by
  refine wpAny_call ?_
  refine codeAny_call_def (binds := binds) R.d ho hd (X.top.nolimit.keeps S.keep) hcd hbody hbind hcell hloc (fun h₁ hns hk₁ => ?_) hco hgen hk
  obtain ⟨o, ho', hP⟩ := NsHas.of_ns (b := binds.reverse) hns (fun x v e => e)
  refine wpAny_mono (h s.heap.objs.size { s with heap := h₁, toks := s.toks + binds.length } (S.add (s' := { s with heap := h₁, toks := s.toks + binds.length }) hk₁ (none_size (Nat.le_refl _)) ho' hP S.ne_size)) (fun fl s'' hq => ?_) fun _ _ e => e.elim
  cases fl <;> exact hq

theorem codeAny_call_cellsB {prog : Program} {w : World} {A : Around} {s : Shared} {R : Result → Shared → Prop} {a : Addr} {o : Obj} {fd : FuncData} {body : List Stmt} {args : Args} {binds : List (Str × Value)}
    (hroom : A.depth < recursionLimit) (ho : s.heap.get? a = some o) (hdata : o.data = .func fd) (hlim : s.heap.NoLimit) (hcd : s.heap.CodeRec fd.code fd.qualname)
    (hbody : fd.body = .stmts body) (hbind : BindsTo s fd args binds) (hclo : fd.closure = [])
    (hkind : ∀ x ∈ binds, fd.scope.names.lookup x.1 = some .local ∨ (fd.scope.names.lookup x.1 = some .cell ∧ ((cellsFrom (s.heap.objs.size + 1) fd.scope.names []).lookup x.1).isSome = true))
    (h : ∀ s₁, InCallC s (callEnvC fd s.heap.objs.size a).locals (bindL (callEnvC fd s.heap.objs.size a).kindOf binds fun _ => none) (callEnvC fd s.heap.objs.size a).cells
        (bindC (callEnvC fd s.heap.objs.size a).kindOf binds fun _ => none) s₁ →
      wpAny (model prog w) (A.deeper (callEnvC fd s.heap.objs.size a)) (execs body (callEnvC fd s.heap.objs.size a)) (fun f s' => R (.ok (.ret (match f with | .ret v => v | _ => .none))) s')
        (fun e s' => wpAny (model prog w) (A.deeper (callEnvC fd s.heap.objs.size a)) (leaving (callEnvC fd s.heap.objs.size a) e) (fun _ s'' => R (.error e) s'') (fun e' s'' => R (.error e') s'') s') s₁)
    (hco : fd.scope.isCoroutine = false := by rfl) (hgen : fd.scope.isGenerator = false := by rfl) (hk : fd.scope.kind = .function := by rfl) :
    codeAny (model prog w) A (.call (.ref a) args) R s := by
  refine codeAny_call_function hroom ho hdata hco hgen hbody hcd (hbind _ _ _ _ ?_)
  rw [hclo]
  refine wpAny_newFunctionEnv_cells hk hkind fun env he s' x => ?_
  subst he
  exact ⟨hlim.keeps x.toInCall.keep, codeAny_func (h s' x)⟩

/-- a def with cells -/
theorem w_fnC {k : Nat} {f : Addr} {fo : Obj} {fd : FuncData} {body : List Stmt} {pos : List Value} {kw : List (Str × Value)} {binds : List (Str × Value)} {Q : Value → Shared → Prop} {cs : Addr → List (Str × Addr)} (S : St X g s l) (R : Rm A k)
    (ho : s.heap.get? f = some fo) (hd : fo.data = .func fd) (hbody : fd.body = .stmts body) (hcd : s.heap.CodeRec fd.code fd.qualname) (hbind : BindsTo s fd ⟨pos, kw⟩ binds) (hclo : fd.closure = [])
    (hcs : ∀ n, cellsFrom n fd.scope.names [] = cs n) (hnd : ((cellsFrom 0 fd.scope.names []).map (·.1)).Nodup)
    (h : ∀ L s', St X g s' ((L, NsHas (binds.filter fun x => fd.scope.names.lookup x.1 == some .local).reverse) :: (cellEnts (cs (L + 1)) (fun n => (binds.filter fun x => !(fd.scope.names.lookup x.1 == some .local)).reverse.lookup n) ++ l)) →
      wpAny X.M (A.deeper (newEnv fd.scope L fd.globals (cs (L + 1)) (fd.qualname ++ ".<locals>.") (some f) fd.code none fd.builtins)) (execs body (newEnv fd.scope L fd.globals (cs (L + 1)) (fd.qualname ++ ".<locals>.") (some f) fd.code none fd.builtins)) (fun fl s'' => Q (retOf fl) s'') NoE s')
    (hkind : (binds.all fun x => fd.scope.names.lookup x.1 == some .local || (fd.scope.names.lookup x.1 == some .cell && ((cs 0).lookup x.1).isSome)) = true)
    (hsome : ∀ n x, ((cs 0).lookup x).isSome = true → ((cs n).lookup x).isSome = true)
    (hco : fd.scope.isCoroutine = false) (hgen : fd.scope.isGenerator = false) (hk : fd.scope.kind = .function) :
    wpAny X.M A (call (.ref f) pos kw) Q E s := by
  refine wpAny_call ?_
  refine codeAny_call_cellsB (binds := binds) R.d ho hd (X.top.nolimit.keeps S.keep) hcd hbody hbind hclo (fun x hx => ?_) (fun s₁ C => ?_) hco hgen hk
  · have := List.all_eq_true.mp hkind x hx
    rcases Bool.or_eq_true_iff.mp this with q | q
    · exact .inl (by simpa using q)
    · obtain ⟨q1, q2⟩ := Bool.and_eq_true_iff.mp q
      exact .inr ⟨by simpa using q1, by rw [hcs]; exact hsome _ _ q2⟩
  · have hL : (callEnvC fd s.heap.objs.size f) = newEnv fd.scope s.heap.objs.size fd.globals (cs (s.heap.objs.size + 1)) (fd.qualname ++ ".<locals>.") (some f) fd.code none fd.builtins := by unfold callEnvC; rw [hcs]
    rw [hL] at C ⊢
    obtain ⟨hh, tk, rfl⟩ := C.toInCall.same
    have hkeep := C.toInCall.keep
    obtain ⟨o, ho', hP⟩ := NsHas.of_ns (b := (binds.filter fun x => fd.scope.names.lookup x.1 == some .local).reverse) C.toInCall.ns (fun x v e => by rw [bindL_is]; exact (congrArg (Option.or · none) e).trans rfl)
    have hcell : ∀ n c, (n, c) ∈ cs (s.heap.objs.size + 1) → ∃ o, hh.get? c = some o ∧ o.data = .cell ((binds.filter fun x => !(fd.scope.names.lookup x.1 == some .local)).reverse.lookup n) := by
      intro n c hm
      have hn : ((cs (s.heap.objs.size + 1)).map (·.1)).Nodup := by rw [← hcs]; exact cellsFrom_names fd.scope.names 0 (s.heap.objs.size + 1) [] [] rfl ▸ hnd
      obtain ⟨o, h1, h2⟩ := C.cell n c (lookup_of_mem_nodup hn hm)
      refine ⟨o, h1, h2.trans (congrArg Data.cell ?_)⟩
      rw [bindC_is]
      show ((List.filter (fun y => !(fd.scope.names.lookup y.1 == some NameKind.local)) binds).reverse.lookup n).or none = _
      exact Option.or_none
    have habove : ∀ n c, (n, c) ∈ cs (s.heap.objs.size + 1) → s.heap.objs.size < c := fun n c hm => C.above n c hm
    have hapart : (cs (s.heap.objs.size + 1)).Pairwise fun x y => x.2 ≠ y.2 := C.apart
    refine wpAny_mono (h s.heap.objs.size _ ?_) (fun fl s'' hq => ?_) fun _ _ e => e.elim
    · refine ⟨fun b o e => hkeep b o (S.keep b o e), fun p hp => ?_, fun p hp => ?_, ?_, S.os, S.gens, S.dr⟩
      · rcases List.mem_cons.mp hp with rfl | hp
        · exact ⟨o, ho', hP⟩
        · rcases List.mem_append.mp hp with hp | hp
          · obtain ⟨x, hx, rfl⟩ := List.mem_map.mp hp
            exact hcell x.1 x.2 hx
          · obtain ⟨o, h1, h2⟩ := S.get p hp
            exact ⟨o, hkeep _ _ h1, h2⟩
      · have fresh : ∀ a, s.heap.objs.size ≤ a → X.hT.get? a = none := fun a ha => by
          cases q : X.hT.get? a with
          | none => rfl
          | some o => exact absurd (Heap.lt_size (S.keep _ _ q)) (Nat.not_lt.mpr ha)
        rcases List.mem_cons.mp hp with rfl | hp
        · exact fresh _ (Nat.le_refl _)
        · rcases List.mem_append.mp hp with hp | hp
          · obtain ⟨x, hx, rfl⟩ := List.mem_map.mp hp
            exact fresh _ (Nat.le_of_lt (habove x.1 x.2 hx))
          · exact S.new p hp
      · rw [List.map_cons, List.nodup_cons, List.map_append, List.nodup_append]
        have hc : ∀ a, a ∈ (cellEnts (cs (s.heap.objs.size + 1)) (fun n => (binds.filter fun x => !(fd.scope.names.lookup x.1 == some .local)).reverse.lookup n)).map (·.1) → s.heap.objs.size < a := by
          intro a ha
          obtain ⟨p, hp, rfl⟩ := List.mem_map.mp ha
          obtain ⟨x, hx, rfl⟩ := List.mem_map.mp hp
          exact habove x.1 x.2 hx
        have hl : ∀ a, a ∈ l.map (·.1) → a < s.heap.objs.size := by
          intro a ha
          obtain ⟨p, hp, rfl⟩ := List.mem_map.mp ha
          exact S.lt hp
        refine ⟨fun hm => ?_, ?_, S.nd, fun a ha b hb e => ?_⟩
        · rcases List.mem_append.mp hm with hm | hm
          · exact absurd (hc _ hm) (Nat.lt_irrefl _)
          · exact absurd (hl _ hm) (Nat.lt_irrefl _)
        · rw [cellEnts, List.map_map]
          exact List.pairwise_map.mpr hapart
        · subst e; exact absurd (Nat.lt_trans (hc _ ha) (hl _ hb)) (Nat.lt_irrefl _)
    · cases fl <;> exact hq

/-- a def of the text's top -/
theorem w_def {k : Nat} {f : Addr} {name qual : Str} {params : Arguments} {body : List Stmt} {scope : Scope} {dV kV doc pm cdv ct oc : Value} {an od : Option Addr} {osl : Array (Option Value)} {pos : List Value} {kw : List (Str × Value)}
    {binds : List (Str × Value)} {Q : Value → Shared → Prop} (S : St X g s l) (R : Rm A k)
    (ho : (hd.heap_39 X.w.params).lookup f = some ⟨oc, od, .func (fnOf name qual params body scope dV kV doc pm an cdv ct), osl⟩) (hcd : codeIn (hd.heap_39 X.w.params) cdv qual = true)
    (hbind : BindsTo s (fnOf name qual params body scope dV kV doc pm an cdv ct) ⟨pos, kw⟩ binds)
    (h : ∀ L s', St X g s' ((L, NsHas binds.reverse) :: l) → wpAny X.M (A.deeper (envX qual scope L f cdv [])) (execs body (envX qual scope L f cdv [])) (fun fl s'' => Q (retOf fl) s'') NoE s')
    (hloc : (binds.all fun y => decide (scope.names.lookup y.1 = some .local)) = true) (hcell : ∀ x ∈ scope.names, x.2 ≠ .cell) (hco : scope.isCoroutine = false) (hgen : scope.isGenerator = false) (hk : scope.kind = .function) :
    wpAny X.M A (call (.ref f) pos kw) Q E s :=
  w_fn S R (S.keep _ _ (X.inK _ _ ho)) rfl rfl ((codeRec_of X.inK hcd).keeps S.keep) hbind h (locs hloc) hcell hco hgen hk

theorem w_defC {k : Nat} {f : Addr} {name qual : Str} {params : Arguments} {body : List Stmt} {scope : Scope} {dV kV doc pm cdv ct oc : Value} {an od : Option Addr} {osl : Array (Option Value)} {pos : List Value} {kw : List (Str × Value)}
    {binds : List (Str × Value)} {cs : Addr → List (Str × Addr)} {Q : Value → Shared → Prop} (S : St X g s l) (R : Rm A k)
    (ho : (hd.heap_39 X.w.params).lookup f = some ⟨oc, od, .func (fnOf name qual params body scope dV kV doc pm an cdv ct), osl⟩) (hcd : codeIn (hd.heap_39 X.w.params) cdv qual = true)
    (hbind : BindsTo s (fnOf name qual params body scope dV kV doc pm an cdv ct) ⟨pos, kw⟩ binds)
    (hcs : ∀ n, cellsFrom n scope.names [] = cs n) (hnd : ((cellsFrom 0 scope.names []).map (·.1)).Nodup)
    (h : ∀ L s', St X g s' ((L, NsHas (binds.filter fun x => scope.names.lookup x.1 == some .local).reverse) :: (cellEnts (cs (L + 1)) (fun n => (binds.filter fun x => !(scope.names.lookup x.1 == some .local)).reverse.lookup n) ++ l)) →
      wpAny X.M (A.deeper (envX qual scope L f cdv (cs (L + 1)))) (execs body (envX qual scope L f cdv (cs (L + 1)))) (fun fl s'' => Q (retOf fl) s'') NoE s')
    (hkind : (binds.all fun x => scope.names.lookup x.1 == some .local || (scope.names.lookup x.1 == some .cell && ((cs 0).lookup x.1).isSome)) = true)
    (hsome : ∀ n x, ((cs 0).lookup x).isSome = true → ((cs n).lookup x).isSome = true)
    (hco : scope.isCoroutine = false) (hgen : scope.isGenerator = false) (hk : scope.kind = .function) :
    wpAny X.M A (call (.ref f) pos kw) Q E s :=
  w_fnC (fd := fnOf name qual params body scope dV kV doc pm an cdv ct) S R (S.keep _ _ (X.inK _ _ ho)) rfl rfl ((codeRec_of X.inK hcd).keeps S.keep) hbind rfl hcs hnd h hkind hsome hco hgen hk
theorem some_of_names {cs : Addr → List (Str × Addr)} (h : ∀ n, (cs n).map (·.1) = (cs 0).map (·.1)) : ∀ n x, ((cs 0).lookup x).isSome = true → ((cs n).lookup x).isSome = true := by
  have key : ∀ (a b : List (Str × Addr)) (x : Str), a.map (·.1) = b.map (·.1) → (a.lookup x).isSome = (b.lookup x).isSome := by
    intro a
    induction a with
    | nil => intro b x e; cases b with
      | nil => rfl
      | cons _ _ => cases e
    | cons p a ih => intro b x e; cases b with
      | nil => cases e
      | cons q b =>
        simp only [List.map_cons, List.cons.injEq] at e
        obtain ⟨p1, p2⟩ := p
        obtain ⟨q1, q2⟩ := q
        obtain ⟨e1, e2⟩ := e
        dsimp only at e1
        subst e1
        simp only [List.lookup_cons]
        cases x == p1 with
        | true => rfl
        | false => exact ih b x e2
  intro n x e
  rw [key _ _ x (h n)]; exact e
end
end Mine

namespace Mine

section
variable {X : Cx} {g : Array GenState} {s : Shared} {l l' : List Ent} {f : Ent} {A : Around} {E : Value → Shared → Prop} {env : Env}

/-! ints -/
theorem w_int {i : Int} {k : Nat} {pos : Pos} {Q : Value → Shared → Prop} (S : St X g s l) (h : ∀ s' t, St X g s' l → Q (.int i t) s') : wpAny X.M A (eval (.Constant (.int i) k pos) env) Q E s :=
  wpAny_Constant_int (h _ _ (S.tok _))
theorem w_add {a b : Int} {t u : Tok} {Q : Value → Shared → Prop} (S : St X g s l) (h : ∀ s' t, St X g s' l → Q (.int (a + b) t) s') : wpAny X.M A (binaryOp .Add (.int a t) (.int b u)) Q E s := PyProof.Rows.add_int (h _ _ (S.tok _))
theorem w_sub {a b : Int} {t u : Tok} {Q : Value → Shared → Prop} (S : St X g s l) (h : ∀ s' t, St X g s' l → Q (.int (a - b) t) s') : wpAny X.M A (binaryOp .Sub (.int a t) (.int b u)) Q E s := PyProof.Rows.sub_int (h _ _ (S.tok _))
theorem w_mul {a b : Int} {t u : Tok} {Q : Value → Shared → Prop} (S : St X g s l) (hf : IntMulOk a b) (h : ∀ s' t, St X g s' l → Q (.int (a * b) t) s') : wpAny X.M A (binaryOp .Mult (.int a t) (.int b u)) Q E s := PyProof.Rows.mul_int (h _ _ (S.tok _)) hf
theorem w_mod {a b : Int} {t u : Tok} {Q : Value → Shared → Prop} (S : St X g s l) (hb : b ≠ 0) (h : ∀ s' t, St X g s' l → Q (.int (Int.fmod a b) t) s') : wpAny X.M A (binaryOp .Mod (.int a t) (.int b u)) Q E s := PyProof.Rows.mod_int' hb (h _ _ (S.tok _))
theorem w_and {a b : Int} {t u : Tok} {Q : Value → Shared → Prop} (S : St X g s l) (h : ∀ s' t, St X g s' l → Q (.int (Builtin.bitAnd a b) t) s') : wpAny X.M A (binaryOp .BitAnd (.int a t) (.int b u)) Q E s := PyProof.Rows.and_int (h _ _ (S.tok _))
theorem w_or {a b : Int} {t u : Tok} {Q : Value → Shared → Prop} (S : St X g s l) (h : ∀ s' t, St X g s' l → Q (.int (Builtin.bitOr a b) t) s') : wpAny X.M A (binaryOp .BitOr (.int a t) (.int b u)) Q E s := PyProof.Rows.or_int (h _ _ (S.tok _))
theorem w_neg {a : Int} {t : Tok} {Q : Value → Shared → Prop} (S : St X g s l) (h : ∀ s' t, St X g s' l → Q (.int (-a) t) s') : wpAny X.M A (unaryOp .USub (.int a t)) Q E s := PyProof.Rows.neg_int (h _ _ (S.tok _))

/-! calls of what has a plain name -/
def Kp (X : Cx) (f : Value) (h : Heap) : Prop := ∃ k, (k = Keeper.frame ∨ k = Keeper.machine ∨ k = Keeper.boundFrame) ∧ Looks X.M h (keeperOf f) k
theorem kp_builtin {id : String} {h : Heap} : Kp X (.builtin id) h := ⟨.machine, .inr (.inl rfl), .now⟩
theorem kp_type {T : String} {h : Heap} : Kp X (.type T) h := ⟨.machine, .inr (.inl rfl), .now⟩
theorem kp_K {v : Value} (S : St X g s l) (hk : keepIn (hd.heap_39 X.w.params) v = true) : Kp X v s.heap := keeps_K hk s.heap (fun a o e => S.keep _ _ (X.inK a o e))
theorem kp_fn {a : Addr} {o : Obj} {fd : FuncData} (ho : s.heap.get? a = some o) (hd : o.data = .func fd) : Kp X (.ref a) s.heap :=
  ⟨.frame, .inl rfl, (Looks.ld (part := none) ho).andThen (by rw [hd]; exact .now)⟩

theorem evalArgs_p {M : Model} {fv : Value} : ∀ {args : List (Bool × Sem Value)} {Q : Args → Shared → Prop}, args.any (·.1) = false → wpAny M A (spliced args) (fun vs s' => Q ⟨vs, []⟩ s') E s → wpAny M A (evalArgs fv true args []) Q E s
  | [], Q, _, h => by
    unfold evalArgs
    show wpAny M A (spliced [] >>= _) Q E s
    refine wpAny_bind (wpAny_mono h (fun vs s' h' => ?_) fun _ _ x => x)
    refine wpAny_bind (wpAny_pure ?_)
    refine wpAny_holding ?_
    exact wpAny_bind (wpAny_pure (wpAny_bind (wpAny_pure (wpAny_pure h'))))
  | (true, _) :: _, _, hp, _ => by simp at hp
  | (false, x) :: rest, Q, _, h => evalArgs_plain h

theorem w_callW {pos : Pos} {fv : Value} {first : List Value} {args : List Expr} {Q : Value → Shared → Prop}
    (h : wpAny X.M A (spliced (backTo pos (starEach args env))) (fun vs s₁ => Kp X fv s₁.heap ∧ wpAny X.M A (call fv (first ++ vs) []) Q E s₁) E s)
    (hplain : (backTo pos (starEach args env)).any (·.1) = false := by rfl) :
    wpAny X.M A (callWith pos fv first (backTo pos (starEach args env)) []) Q E s :=
  callWith_of (P := fun h => Kp X fv h) (by rw [hplain]; rfl) (fun _ x => x) (evalArgs_p hplain h)
/-- a call by a name -/
theorem w_Call {id : Str} {p pos : Pos} {args : List Expr} {Q : Value → Shared → Prop}
    (h : wpAny X.M A (eval (.Name id p) env) (fun fv s₁ => wpAny X.M A (spliced (backTo pos (starEach args env))) (fun vs s₂ => Kp X fv s₂.heap ∧ wpAny X.M A (call fv vs []) Q E s₂) E s₁) E s)
    (hplain : (backTo pos (starEach args env)).any (·.1) = false := by rfl) :
    wpAny X.M A (eval (.Call (.Name id p) args [] pos) env) Q E s := by
  rw [arm_eval_Call_Name']
  exact wpAny_bind (wpAny_mono h (fun fv s₁ h₁ => w_callW (first := []) h₁ hplain) fun _ _ e => e)

/-! tuples of ints -/
theorem St.isTup (S : St X g s l) {a : Addr} {vs : List Value} (h : (a, TupIs vs) ∈ l) : IsTup s.heap a vs.toArray := by
  obtain ⟨o, ho, n, rfl⟩ := S.mem h
  exact ⟨_, ho, rfl, n, rfl⟩
theorem St.isRow (S : St X g s l) {a : Addr} {r : List Int} (h : (a, RowIs r) ∈ l) : ∃ vs, IsTup s.heap a vs.toArray ∧ IntsAre vs r := by
  obtain ⟨o, ho, vs, ⟨n, rfl⟩, hi⟩ := S.mem h
  exact ⟨vs, ⟨_, ho, rfl, n, rfl⟩, hi⟩

theorem w_lenRow {a : Addr} {r : List Int} {Q : Value → Shared → Prop} (S : St X g s l) (hm : (a, RowIs r) ∈ l) (hz : r.length < 2 ^ 62) (h : ∀ s' t, St X g s' l → Q (.int (r.length : Nat) t) s') : wpAny X.M A (call (.builtin "len") [.ref a]) Q E s := by
  obtain ⟨vs, ht, hi⟩ := S.isRow hm
  refine len_tuple ht (by rw [List.size_toArray, hi.length]; omega) ?_
  rw [List.size_toArray, hi.length]
  exact h _ _ (S.tok _)
theorem w_itemRow {value slice : Expr} {a : Addr} {r : List Int} {k : Int} {u : Tok} {Q : Value → Shared → Prop} (S : St X g s l) (hm : (a, RowIs r) ∈ l) (h0 : 0 ≤ k) (h1 : k < r.length) (hz : r.length < 2 ^ 62) (h : ∀ t, Q (.int (r.getD k.toNat 0) t) s)
    (hs : subscripted slice false (.ref a) (.int k u) = operate [.ref a, .int k u] (getItem (.ref a) (.int k u)) := by with_unfolding_all rfl) (hg : ∀ r, letTemporaryGo value (.ref a) r = pure () := by intro _; with_unfolding_all rfl) :
    wpAny X.M A (subscriptTail value slice (.ref a) (.int k u)) Q E s := by
  obtain ⟨vs, ht, hi⟩ := S.isRow hm
  exact item_tuple_ints ht hi h0 h1 (by omega) h hs hg

/-! ranges -/
theorem w_range1 {n : Int} {t : Tok} {Q : Value → Shared → Prop} (S : St X g s (f :: l)) (h : ∀ r s', St X g s' (f :: (r, RangeIs 0 n 1) :: l) → Q (.ref r) s') : wpAny X.M A (call (.type "range") [.int n t]) Q E s :=
  call_range_1 (h _ _ ((S.push2 (o := { cls := .type "range", data := .fields #[.int 0 s.toks, .int n t, .int 1 (s.toks + 1)] }) ⟨_, _, _, rfl⟩).tok _))
theorem w_range2 {a b : Int} {t u : Tok} {Q : Value → Shared → Prop} (S : St X g s (f :: l)) (h : ∀ r s', St X g s' (f :: (r, RangeIs a b 1) :: l) → Q (.ref r) s') : wpAny X.M A (call (.type "range") [.int a t, .int b u]) Q E s :=
  call_range_2 (h _ _ ((S.push2 (o := { cls := .type "range", data := .fields #[.int a t, .int b u, .int 1 s.toks] }) ⟨_, _, _, rfl⟩).tok _))
/-- the iterator of a range by ones; the range itself is let go -/
theorem w_iterRange1 {r : Addr} {a b : Int} {n : Nat} {Q : Value → Shared → Prop} (S : St X g s (f :: (r, RangeIs a b 1) :: l)) (ha : -(2 ^ 62) ≤ a) (ha' : a < 2 ^ 62) (hb : -(2 ^ 62) ≤ b) (hb' : b < 2 ^ 62) (hn : (b - a).toNat = n)
    (h : ∀ I s', St X g s' ((I, RIterIs (a + ((0 : Nat) : Int) * 1) ((n : Int) - (0 : Nat)) 1) :: f :: l) → Q (.ref I) s') : wpAny X.M A (pyIter (.ref r)) Q E s := by
  refine w_iterRange (n := n) S (.tail _ (.head _)) (small_one ha ha' hb hb') ?_ fun I s' S' => h I s' (S'.sub ?_)
  · rw [rangeSize_one]; split <;> omega
  · exact ((List.Sublist.refl l).cons _).cons_cons f |>.cons_cons _

/-! tuples joined -/
theorem w_addRow {a b : Addr} {r q : List Int} {Q : Value → Shared → Prop} (S : St X g s (f :: l)) (ha : (a, RowIs r) ∈ f :: l) (hb : (b, RowIs q) ∈ f :: l) (hz : r.length + q.length ≤ sizeLine)
    (h : ∀ c s' new, St X g s' (f :: (new ++ l)) → (c, RowIs (r ++ q)) ∈ f :: (new ++ l) → Q (.ref c) s') : wpAny X.M A (binaryOp .Add (.ref a) (.ref b)) Q E s := by
  obtain ⟨o, ho, vs, ⟨n, rfl⟩, hi⟩ := S.mem ha
  obtain ⟨o2, ho2, ws, ⟨n2, rfl⟩, hi2⟩ := S.mem hb
  have e : vs.toArray ++ ws.toArray = (vs ++ ws).toArray := by simp
  by_cases hv : vs = []
  · refine concat_meets ⟨_, ho, rfl⟩ ⟨_, ho2, rfl⟩ noFill_tuple_add seq_tuple_add PySem.F.slot_tuple_add PySem.F.entry_tuple_add (PySem.F.args_tuple_add_2 _ _)
      (tuple_addW0 a b vs.toArray ws.toArray n n2 _ _ _ _ (by simp [hv])) ⟨ho, ho2, ?_⟩
    have hr : r = [] := by subst hv; cases hi; rfl
    subst hr
    exact h b s [] S hb
  · by_cases hw : ws = []
    · refine concat_meets ⟨_, ho, rfl⟩ ⟨_, ho2, rfl⟩ noFill_tuple_add seq_tuple_add PySem.F.slot_tuple_add PySem.F.entry_tuple_add (PySem.F.args_tuple_add_2 _ _)
        (tuple_addW1 a b vs.toArray ws.toArray n n2 _ _ _ _ (by simpa using hv) (by simp [hw])) ⟨ho, ho2, ?_⟩
      have hr : q = [] := by subst hw; cases hi2; rfl
      subst hr
      exact h a s [] S (by simpa using ha)
    · refine concat_meets ⟨_, ho, rfl⟩ ⟨_, ho2, rfl⟩ noFill_tuple_add seq_tuple_add PySem.F.slot_tuple_add PySem.F.entry_tuple_add (PySem.F.args_tuple_add_2 _ _)
        (tuple_addW2 a b vs.toArray ws.toArray n n2 _ _ _ _ (by simpa using hv) (by simpa using hw) (by rw [List.size_toArray, List.size_toArray, hi.length, hi2.length]; exact hz)) ⟨ho, ho2, ?_⟩
      rw [e]
      exact h _ _ [(s.heap.objs.size, RowIs (r ++ q))] (S.push2 (o := { cls := .type "tuple", data := .seq (vs ++ ws).toArray }) ⟨_, ⟨0, rfl⟩, hi.append hi2⟩) (.tail _ (.head _))

/-! tuples cut -/
def cutLo (v : Option Int) (n : Nat) : Nat := match v with
  | none => 0
  | some x => min x.toNat n
def cutHi (v : Option Int) (n : Nat) : Nat := match v with
  | none => n
  | some x => min x.toNat n
def cutOf {α : Type} (r : List α) (lo hi : Option Int) : List α := (r.drop (cutLo lo r.length)).take (cutHi hi r.length - cutLo lo r.length)
theorem IntsAre.cut {vs : List Value} {r : List Int} (h : IntsAre vs r) (lo hi : Option Int) : IntsAre (cutOf vs lo hi) (cutOf r lo hi) := by
  unfold cutOf
  rw [h.length]
  exact (h.drop _).take _
theorem cut_adjust {lo hi : Option Int} {n : Nat} (hlo : ∀ x, lo = some x → 0 ≤ x) (hhi : ∀ x, hi = some x → 0 ≤ x) : Builtin.Slice.sliceAdjust lo hi 1 (n : Int) = ((cutLo lo n : Int), (cutHi hi n : Int)) := by
  unfold Builtin.Slice.sliceAdjust cutLo cutHi
  have h1 : ¬ ((1 : Int) < 0) := by omega
  simp only [h1, if_false]
  congr 1
  · cases lo with
    | none => rfl
    | some x => have := hlo x rfl; dsimp only; rw [if_neg (by omega)]; omega
  · cases hi with
    | none => rfl
    | some x => have := hhi x rfl; dsimp only; rw [if_neg (by omega)]; omega
theorem cut_places (a b : Nat) : Builtin.Slice.slicePlaces (a : Int) (b : Int) 1 = b - a := by
  unfold Builtin.Slice.slicePlaces
  have h1 : (1 : Int) > 0 := by omega
  simp only [h1, if_true, Int.ediv_one]
  split <;> omega
theorem slicePart_is {v : Value} {k : Option Int} {Q : Option Int → Shared → Prop} (p : IsPart v k) (h : Q k s) : wpAny X.M A (Builtin.Slice.slicePartIndex v) Q E s := by
  cases p with
  | none => exact slicePart_none h
  | int i t => exact slicePart_int h
theorem cut_applied {sl : Addr} {vl vu : Value} {lo hi : Option Int} {n : Nat} {Q : Int × Int × Nat → Shared → Prop} (hs : s.heap.IsSliceOf sl vl vu .none) (pl : IsPart vl lo) (pu : IsPart vu hi) (hlo : ∀ x, lo = some x → 0 ≤ x) (hhi : ∀ x, hi = some x → 0 ≤ x)
    (h : Q ((cutLo lo n : Int), 1, cutHi hi n - cutLo lo n) s) : wpAny X.M A (Builtin.Slice.sliceApplied (.ref sl) (pure (n : Int))) Q E s := by
  obtain ⟨os, hos, hcs, hds⟩ := id hs
  unfold Builtin.Slice.sliceApplied Builtin.Slice.sliceFields
  refine wpAny_bind (wpAny_bind (wpAny_field hos hds (x := vl) rfl (wpAny_bind (wpAny_field hos hds (x := vu) rfl (wpAny_bind (wpAny_field hos hds (x := .none) rfl (wpAny_pure ?_)))))))
  refine wpAny_bind (slicePart_none ?_)
  show wpAny _ _ (if ((1 : Int) == 0) = true then _ else _) _ _ s
  rw [if_neg (by decide)]
  refine wpAny_bind (slicePart_is pl (wpAny_bind (slicePart_is pu (wpAny_bind (wpAny_pure ?_)))))
  show wpAny _ _ (match Builtin.Slice.sliceAdjust lo hi 1 (n : Int) with | (lo, hi) => pure (lo, (1 : Int), Builtin.Slice.slicePlaces lo hi 1)) _ _ s
  rw [cut_adjust hlo hhi]
  show wpAny _ _ (pure ((cutLo lo n : Int), (1 : Int), Builtin.Slice.slicePlaces (cutLo lo n : Int) (cutHi hi n : Int) 1)) _ _ s
  rw [cut_places]
  exact wpAny_pure h
theorem cut_pick (vs : List Value) (lo hi : Option Int) : ((List.range (cutHi hi vs.length - cutLo lo vs.length)).filterMap fun (k : Nat) => vs.toArray[((cutLo lo vs.length : Int) + (k : Int) * 1).toNat]?).toArray = (cutOf vs lo hi).toArray := by
  have e : (fun (k : Nat) => vs.toArray[((cutLo lo vs.length : Int) + (k : Int) * 1).toNat]?) = fun k => vs.toArray[cutLo lo vs.length + k]? := by
    funext k
    have : ((cutLo lo vs.length : Int) + (k : Int) * 1).toNat = cutLo lo vs.length + k := by omega
    rw [this]
  rw [e]
  have := pick_run vs.toArray (cutLo lo vs.length) (cutHi hi vs.length - cutLo lo vs.length)
  rw [List.filterMap_map] at this
  have e2 : ((fun x => vs.toArray[x]?) ∘ fun x => cutLo lo vs.length + x) = fun k => vs.toArray[cutLo lo vs.length + k]? := rfl
  rw [e2] at this
  rw [this]
  rfl
theorem getItem_cut {t sl : Addr} {vs : List Value} {vl vu : Value} {lo hi : Option Int} {Q : Value → Shared → Prop} (ht : IsTup s.heap t vs.toArray) (hs : s.heap.IsSliceOf sl vl vu .none) (pl : IsPart vl lo) (pu : IsPart vu hi)
    (hlo : ∀ x, lo = some x → 0 ≤ x) (hhi : ∀ x, hi = some x → 0 ≤ x)
    (h0 : cutOf vs lo hi = vs → Q (.ref t) s) (h : Q (.ref s.heap.objs.size) { s with heap := s.heap.push { cls := .type "tuple", data := .seq (cutOf vs lo hi).toArray } }) (hsz : vs.length ≤ sizeLine) :
    wpAny X.M A (getItem (.ref t) (.ref sl)) Q E s := by
  have hdrop : sizeOk (.seq (cutOf vs lo hi).toArray) := by
    show (cutOf vs lo hi).toArray.size ≤ sizeLine
    rw [List.size_toArray, cutOf, List.length_take, List.length_drop]
    omega
  obtain ⟨os, hos, hcs, hds⟩ := id hs
  have hTs : s.TypeIs (.ref sl) "slice" := ⟨os, hos, hcs⟩
  unfold getItem
  try with_reducible refine wpAny_holding ?_
  first | refine wpAny_bind (wpAny_pure ?_) | skip
  refine wpAny_bind (wpAny_sequenceKey ht.typeIs (by decide) ?_)
  refine wpAny_bind (wpAny_callSpecial?_slot (name := Str.ofString "__getitem__") ht.typeIs slot_tuple_getitem
    (wpAny_call_entry slot_tuple_getitem ht.typeIs entry_tuple_getitem ?_ (args_tuple_getitem _ _)))
  show wpAny _ _ (Builtin.Tuple.tupleItemsOf (.ref t) >>= _) _ _ s
  refine wpAny_bind (tupleItemsOf_ ht ?_)
  refine wpAny_bind (wpAny_typeOf hTs ?_)
  rw [if_pos (by decide)]
  have hn : vs.toArray.size = vs.length := List.size_toArray ..
  rw [hn]
  refine wpAny_bind (cut_applied hs pl pu hlo hhi ?_)
  show wpAny _ _ (if ((cutLo lo vs.length : Int) == 0 && (1 : Int) == 1 && (cutHi hi vs.length - cutLo lo vs.length) == vs.length) = true then _ else _) _ _ s
  split
  · rename_i hc
    have hw : cutOf vs lo hi = vs := by
      have c1 : cutLo lo vs.length = 0 := by simp at hc; omega
      have c2 : cutHi hi vs.length - cutLo lo vs.length = vs.length := by simp at hc; omega
      rw [cutOf, c2, c1, List.drop_zero, List.take_length]
    refine wpAny_bind (m := Builtin.Tuple.tupleIsExact _) (wpAny_bind (wpAny_typeOf ht.typeIs (wpAny_pure ?_)))
    show wpAny _ _ (if (Value.type "tuple" == Value.type "tuple") = true then _ else _) _ _ s
    rw [if_pos (by decide)]
    first
      | exact wpAny_bind (wpAny_rule (wpAny_bind (wpAny_pure ⟨_, rfl, wpAny_pure (h0 hw)⟩)))
      | exact wpAny_bind (wpAny_rule (wpAny_pure ⟨_, rfl, wpAny_pure (h0 hw)⟩))
      | exact wpAny_bind (wpAny_rule (wpAny_bind (wpAny_pure (wpAny_pure ⟨_, rfl, wpAny_pure (h0 hw)⟩))))
  · rw [cut_pick]
    first
      | exact wpAny_bind (m := Builtin.Tuple.tupleExact _) (wpAny_newObj_type (wpAny_pure ⟨_, rfl, wpAny_pure h⟩) hdrop)
      | exact wpAny_bind (m := Builtin.Tuple.tupleExact _) (wpAny_newObj_type (wpAny_bind (wpAny_pure (wpAny_pure ⟨_, rfl, wpAny_pure h⟩))) hdrop)
      | exact wpAny_bind (wpAny_bind (m := Builtin.Tuple.tupleExact _) (wpAny_newObj_type (wpAny_pure (wpAny_pure ⟨_, rfl, wpAny_pure h⟩)) hdrop))
      | exact wpAny_bind (wpAny_bind (m := Builtin.Tuple.tupleExact _) (wpAny_newObj_type (wpAny_pure ⟨_, rfl, wpAny_pure h⟩) hdrop))
end
end Mine

namespace Mine
section
variable {X : Cx} {g : Array GenState} {s : Shared} {l l' : List Ent} {f : Ent} {A : Around} {E : Value → Shared → Prop} {env : Env}

/-- a cut of a row: what is wanted where its parts are read -/
theorem w_cutRow {value : Expr} {lower upper : Option Expr} {p pos : Pos} {Q : Value → Shared → Prop}
    (h : wpAny X.M A (eval value env) (fun o s₁ => wpAny X.M A (evalPart lower env) (fun vl s₂ => wpAny X.M A (evalPart upper env) (fun vu s₃ =>
      ∃ t r lo hi g f l, o = .ref t ∧ St X g s₃ (f :: l) ∧ (t, RowIs r) ∈ f :: l ∧ r.length ≤ sizeLine ∧ IsPart vl lo ∧ IsPart vu hi ∧ (∀ x, lo = some x → 0 ≤ x) ∧ (∀ x, hi = some x → 0 ≤ x) ∧
        (∀ c s' new, St X g s' (f :: (new ++ l)) → (c, RowIs (cutOf r lo hi)) ∈ f :: (new ++ l) → Q (.ref c) s')) E s₂) E s₁) E s)
    (ht : ∀ o r, letTemporaryGo value o r = pure () := by intro _ _; rfl) :
    wpAny X.M A (eval (.Subscript value (.Slice lower upper none p) pos) env) Q E s := by
  refine wpAny_Subscript_Slice slot_tuple_getitem.lookup (wpAny_mono h (fun o s₁ h₁ => wpAny_Slice (wpAny_mono h₁ (fun vl s₂ h₂ => wpAny_mono h₂ (fun vu s₃ h₃ => ?_) fun _ _ e => e) fun _ _ e => e)) fun _ _ e => e) ht
  obtain ⟨t, r, lo, hi, g, f, l, rfl, S, hm, hz, pl, pu, hlo, hhi, hQ⟩ := h₃
  refine wpAny_pure ?_
  have S1 : St X g { s₃ with heap := s₃.heap.push { cls := .type "slice", data := .fields #[vl, vu, .none] } } (f :: l) := S.all (s' := { s₃ with heap := s₃.heap.push { cls := .type "slice", data := .fields #[vl, vu, .none] } }) fun _ _ e => Heap.get?_push_of_some _ e
  obtain ⟨vs, htup, hints⟩ := S1.isRow hm
  refine ⟨htup.typeIs, getItem_cut htup (Heap.IsSliceOf.new ..) pl pu hlo hhi (fun e => ?_) ?_ (by rw [hints.length]; exact hz)⟩
  · have e' : cutOf r lo hi = r := by
      have hc := IntsAre.cut hints lo hi
      rw [e] at hc
      exact (hc.nums.symm.trans hints.nums)
    exact hQ t _ [] S1 (by rw [e']; exact hm)
  · refine hQ _ _ [(_, RowIs (cutOf r lo hi))] (S1.push2 (o := { cls := .type "tuple", data := .seq (cutOf vs lo hi).toArray }) ⟨_, ⟨0, rfl⟩, IntsAre.cut hints lo hi⟩) (.tail _ (.head _))

/-- a cut of a list: a new list -/
theorem w_cutList {value : Expr} {lower upper : Option Expr} {p pos : Pos} {Q : Value → Shared → Prop}
    (h : wpAny X.M A (eval value env) (fun o s₁ => wpAny X.M A (evalPart lower env) (fun vl s₂ => wpAny X.M A (evalPart upper env) (fun vu s₃ =>
      ∃ t vs lo hi g f l, o = .ref t ∧ St X g s₃ (f :: l) ∧ s₃.heap.IsList t (List.toArray vs) ∧ vs.length ≤ sizeLine ∧ IsPart vl lo ∧ IsPart vu hi ∧
        (∀ c s', St X g s' (f :: (c, ListIs (kms_pick vs lo hi)) :: l) → Q (.ref c) s')) E s₂) E s₁) E s)
    (ht : ∀ o r, letTemporaryGo value o r = pure () := by intro _ _; rfl) :
    wpAny X.M A (eval (.Subscript value (.Slice lower upper none p) pos) env) Q E s := by
  refine wpAny_Subscript_list_slice (wpAny_mono h (fun o s₁ h₁ => wpAny_mono h₁ (fun vl s₂ h₂ => wpAny_mono h₂ (fun vu s₃ h₃ => ?_) fun _ _ e => e) fun _ _ e => e) fun _ _ e => e) ht
  obtain ⟨t, vs, lo, hi, g, f, l, rfl, S, hl, hz, pl, pu, hQ⟩ := h₃
  refine ⟨t, _, lo, hi, rfl, hl, by simpa using hz, pl, pu, ?_⟩
  rw [kms_pick_eq]
  have S1 : St X g { s₃ with heap := s₃.heap.push { cls := .type "slice", data := .fields #[vl, vu, .none] } } (f :: l) := S.all (s' := { s₃ with heap := s₃.heap.push { cls := .type "slice", data := .fields #[vl, vu, .none] } }) fun _ _ e => Heap.get?_push_of_some _ e
  have S2 := S1.push2 (o := { cls := .type "list", data := .seq (kms_pick vs lo hi).toArray }) (P := ListIs (kms_pick vs lo hi)) ⟨0, rfl⟩
  have hsz : (s₃.heap.push { cls := .type "slice", data := .fields #[vl, vu, .none] }).objs.size = s₃.heap.objs.size + 1 := Heap.size_push ..
  rw [show (s₃.heap.objs.size + 1) = (s₃.heap.push { cls := .type "slice", data := .fields #[vl, vu, .none] }).objs.size from hsz.symm]
  exact hQ _ _ S2

/-! displays -/
theorem w_newTuple {vs : List Value} {Q : Value → Shared → Prop} (S : St X g s (f :: l)) (hz : vs.length ≤ sizeLine) (h : ∀ a s', St X g s' (f :: (a, TupIs vs) :: l) → Q (.ref a) s') : wpAny X.M A (newTuple vs) Q E s :=
  wpAny_newObj_type (h _ _ (S.push2 (o := { cls := .type "tuple", data := .seq vs.toArray }) ⟨0, rfl⟩)) (by show vs.toArray.size ≤ sizeLine; simpa using hz)
theorem w_newRow {vs : List Value} {r : List Int} {Q : Value → Shared → Prop} (S : St X g s (f :: l)) (hi : IntsAre vs r) (hz : r.length ≤ sizeLine) (h : ∀ a s', St X g s' (f :: (a, RowIs r) :: l) → Q (.ref a) s') : wpAny X.M A (newTuple vs) Q E s :=
  wpAny_newObj_type (h _ _ (S.push2 (o := { cls := .type "tuple", data := .seq vs.toArray }) ⟨vs, ⟨0, rfl⟩, hi⟩)) (by show vs.toArray.size ≤ sizeLine; rw [List.size_toArray, hi.length]; exact hz)
theorem w_newList {vs : List Value} {Q : Value → Shared → Prop} (S : St X g s (f :: l)) (hz : vs.length ≤ sizeLine) (h : ∀ a s', St X g s' (f :: (a, ListIs vs) :: l) → Q (.ref a) s') : wpAny X.M A (newList vs) Q E s :=
  wpAny_newObj_type (h _ _ (S.push2 (o := { cls := .type "list", data := .seq vs.toArray }) ⟨0, rfl⟩)) (by show vs.toArray.size ≤ sizeLine; simpa using hz)

/-! lists -/
theorem w_lenList {a : Addr} {vs : List Value} {Q : Value → Shared → Prop} (S : St X g s l) (hm : (a, ListIs vs) ∈ l) (hz : vs.length < 2 ^ 62) (h : ∀ s' t, St X g s' l → Q (.int (vs.length : Nat) t) s') : wpAny X.M A (call (.builtin "len") [.ref a]) Q E s := by
  refine Calls.call_len_list (S.isList hm) (by rw [List.size_toArray]; omega) ?_
  rw [List.size_toArray]
  exact h _ _ (S.tok _)
theorem w_itemList {value slice : Expr} {a : Addr} {vs : List Value} {k : Int} {u : Tok} {v : Value} {Q : Value → Shared → Prop} (S : St X g s l) (hm : (a, ListIs vs) ∈ l) (h0 : 0 ≤ k) (hz : k < 2 ^ 63) (hv : vs[k.toNat]? = some v) (h : Q v s)
    (hs : subscripted slice false (.ref a) (.int k u) = operate [.ref a, .int k u] (getItem (.ref a) (.int k u)) := by with_unfolding_all rfl) (hg : ∀ r, letTemporaryGo value (.ref a) r = pure () := by intro _; with_unfolding_all rfl) :
    wpAny X.M A (subscriptTail value slice (.ref a) (.int k u)) Q E s :=
  item_list (S.isList hm) h0 hz (by simpa using hv) h hs hg
theorem w_itemTup {value slice : Expr} {a : Addr} {vs : List Value} {k : Int} {u : Tok} {v : Value} {Q : Value → Shared → Prop} (S : St X g s l) (hm : (a, TupIs vs) ∈ l) (h0 : 0 ≤ k) (hz : k < 2 ^ 63) (hv : vs[k.toNat]? = some v) (h : Q v s)
    (hs : subscripted slice false (.ref a) (.int k u) = operate [.ref a, .int k u] (getItem (.ref a) (.int k u)) := by with_unfolding_all rfl) :
    wpAny X.M A (subscriptTail value slice (.ref a) (.int k u)) Q E s :=
  have hl : k.toNat < vs.length := (List.getElem?_eq_some_iff.mp hv).1
  item_tupleT (S.isTup hm) (by omega) hz (seqIndex_of h0 (by omega)) hv h hs
end
end Mine

theorem Mine.prime : (fun (_ : OpenLaw) (_ : Params → Frag) => True) PySem.Challenge.rw_ft5005_01 hd.heap_39 := by k_fill; trivial
namespace Mine
theorem n_len (P : Params) : nsIn (hd.heap_39 P) mainGlobals (Str.ofString "len") = some none := by k_is
theorem n_range (P : Params) : nsIn (hd.heap_39 P) mainGlobals (Str.ofString "range") = some none := by k_is
theorem n_sorted (P : Params) : nsIn (hd.heap_39 P) mainGlobals (Str.ofString "sorted") = some none := by k_is
theorem n_abs (P : Params) : nsIn (hd.heap_39 P) mainGlobals (Str.ofString "abs") = some none := by k_is
theorem n_list (P : Params) : nsIn (hd.heap_39 P) mainGlobals (Str.ofString "list") = some none := by k_is
theorem n_enumerate (P : Params) : nsIn (hd.heap_39 P) mainGlobals (Str.ofString "enumerate") = some none := by k_is
end Mine

namespace Mine
theorem gd0 {x0 : _} {x1 : _} {x2 : _} {x3 : _} {x4 : _} {x5 : _} {x6 : _} {x7 : _} {x8 : _} (h : wpAny x0 x1 (spliced (backTo x2 (starEach (x3 :: x4) x5))) x6 x7 x8) : wpAny x0 x1 (spliced (backTo x2 (starEach (x3 :: x4) x5))) x6 x7 x8 := h
theorem gd1 {x0 : _} {x1 : _} {x2 : _} {x3 : _} {x4 : _} {x5 : _} {x6 : _} {x7 : _} (h : wpAny x0 x1 (eval (Expr.Name x2 x3) x4) x5 x6 x7) : wpAny x0 x1 (eval (Expr.Name x2 x3) x4) x5 x6 x7 := h
theorem gd2 {x0 : _} {x1 : _} {x2 : _} {x3 : _} {x4 : _} {x5 : _} {x6 : _} {x7 : _} {x8 : _} {x9 : _} (h : wpAny x0 x1 (eval (Expr.Call (Expr.Name x2 x3) x4 [] x5) x6) x7 x8 x9) : wpAny x0 x1 (eval (Expr.Call (Expr.Name x2 x3) x4 [] x5) x6) x7 x8 x9 := h
theorem gd3 {x0 : _} {x1 : _} {x2 : _} {x3 : _} {x4 : _} {x5 : _} {x6 : _} {x7 : _} {x8 : _} {x9 : _} (h : wpAny x0 x1 (eval (Expr.Compare x2 [x3] [x4] x5) x6) x7 x8 x9) : wpAny x0 x1 (eval (Expr.Compare x2 [x3] [x4] x5) x6) x7 x8 x9 := h
theorem gd4 {x0 : _} {x1 : _} {x2 : _} {x3 : _} {x4 : _} {x5 : _} {x6 : _} {x7 : _} {x8 : _} {x9 : _} {x10 : _} (h : wpAny x0 x1 (isTrue (Expr.Compare x2 [x3] [x4] x5) x6 x7) x8 x9 x10) : wpAny x0 x1 (isTrue (Expr.Compare x2 [x3] [x4] x5) x6 x7) x8 x9 x10 := h
theorem gd5 {x0 : _} {x1 : _} {x2 : _} {x3 : _} {x4 : _} {x5 : _} {x6 : _} {x7 : _} {x8 : _} {x9 : _} (h : wpAny x0 x1 (exec (Stmt.Assign [Expr.Name x2 x3] x4 x5) x6) x7 x8 x9) : wpAny x0 x1 (exec (Stmt.Assign [Expr.Name x2 x3] x4 x5) x6) x7 x8 x9 := h
theorem gd6 {x0 : _} {x1 : _} {x2 : _} {x3 : _} {x4 : _} {x5 : _} {x6 : _} {x7 : _} (h : wpAny x0 x1 (storeName x2 x3 x4) x5 x6 x7) : wpAny x0 x1 (storeName x2 x3 x4) x5 x6 x7 := h
theorem gd7 {x0 : _} {x1 : _} {x2 : _} {x3 : _} {x4 : _} {x5 : _} {x6 : _} {x7 : _} (h : wpAny x0 x1 (exec (Stmt.Expr x2 x3) x4) x5 x6 x7) : wpAny x0 x1 (exec (Stmt.Expr x2 x3) x4) x5 x6 x7 := h
theorem gd8 {x0 : _} {x1 : _} {x2 : _} {x3 : _} {x4 : _} {x5 : _} {x6 : _} {x7 : _} {x8 : _} {x9 : _} (h : wpAny x0 x1 (eval (Expr.Attribute (Expr.Name x2 x3) x4 x5) x6) x7 x8 x9) : wpAny x0 x1 (eval (Expr.Attribute (Expr.Name x2 x3) x4 x5) x6) x7 x8 x9 := h
theorem gd9 {x0 : _} {x1 : _} {x2 : _} {x3 : _} {x4 : _} {x5 : _} {x6 : _} {x7 : _} (h : wpAny x0 x1 (getAttr (.ref x2) x3 x4) x5 x6 x7) : wpAny x0 x1 (getAttr (.ref x2) x3 x4) x5 x6 x7 := h
theorem gd10 {x0 : _} {x1 : _} {x2 : _} {x3 : _} {x4 : _} {x5 : _} {x6 : _} {x7 : _} {x8 : _} {x9 : _} {x10 : _} (h : wpAny x0 x1 (exec (Stmt.Assign [Expr.Tuple x2 x3 x4] x5 x6) x7) x8 x9 x10) : wpAny x0 x1 (exec (Stmt.Assign [Expr.Tuple x2 x3 x4] x5 x6) x7) x8 x9 x10 := h
theorem gd11 {x0 : _} {x1 : _} {x2 : _} {x3 : _} {x4 : _} {x5 : _} {x6 : _} {x7 : _} {x8 : _} {x9 : _} {x10 : _} (h : wpAny x0 x1 (exec (Stmt.Assign [Expr.Attribute x2 x3 x4] x5 x6) x7) x8 x9 x10) : wpAny x0 x1 (exec (Stmt.Assign [Expr.Attribute x2 x3 x4] x5 x6) x7) x8 x9 x10 := h
theorem gd12 {x0 : _} {x1 : _} {x2 : _} {x3 : _} {x4 : _} {x5 : _} {x6 : _} {x7 : _} {x8 : _} (h : wpAny x0 x1 (PySem.isTrue (Expr.Name x2 x3) x4 x5) x6 x7 x8) : wpAny x0 x1 (PySem.isTrue (Expr.Name x2 x3) x4 x5) x6 x7 x8 := h
theorem gd13 {x0 : _} {x1 : _} {x2 : _} {x3 : _} {x4 : _} {x5 : _} {x6 : _} {x7 : _} {x8 : _} {x9 : _} {x10 : _} (h : wpAny x0 x1 (PySem.isTrue (Expr.Call x2 x3 x4 x5) x6 x7) x8 x9 x10) : wpAny x0 x1 (PySem.isTrue (Expr.Call x2 x3 x4 x5) x6 x7) x8 x9 x10 := h
theorem gd14 {x0 : _} {x1 : _} {x2 : _} {x3 : _} {x4 : _} {x5 : _} {x6 : _} {x7 : _} {x8 : _} {x9 : _} {x10 : _} (h : wpAny x0 x1 (eval (Expr.Call (Expr.Attribute x2 x3 x4) x5 [] x6) x7) x8 x9 x10) : wpAny x0 x1 (eval (Expr.Call (Expr.Attribute x2 x3 x4) x5 [] x6) x7) x8 x9 x10 := h
theorem gd15 {x0 : _} {x1 : _} {x2 : _} {x3 : _} {x4 : _} {x5 : _} {x6 : _} {x7 : _} {x8 : _} {x9 : _} {x10 : _} (h : wpAny x0 x1 (callWith x2 x3 x4 (backTo x5 (starEach x6 x7)) []) x8 x9 x10) : wpAny x0 x1 (callWith x2 x3 x4 (backTo x5 (starEach x6 x7)) []) x8 x9 x10 := h
theorem gd16 {x0 : _} {x1 : _} {x2 : _} {x3 : _} {x4 : _} {x5 : _} {x6 : _} {x7 : _} (h : wpAny x0 x1 (getMethod x2 x3 x4) x5 x6 x7) : wpAny x0 x1 (getMethod x2 x3 x4) x5 x6 x7 := h
theorem gd17 {x0 : _} {x1 : _} {x2 : _} {x3 : _} {x4 : _} {x5 : _} {x6 : _} {x7 : _} {x8 : _} {x9 : _} {x10 : _} (h : wpAny x0 x1 (exec (Stmt.Try x2 (x3 :: x4) x5 [] x6) x7) x8 x9 x10) : wpAny x0 x1 (exec (Stmt.Try x2 (x3 :: x4) x5 [] x6) x7) x8 x9 x10 := h
theorem gd18 {x0 : _} {x1 : _} {x2 : _} {x3 : _} {x4 : _} {x5 : _} {x6 : _} {x7 : _} (h : wpAny x0 x1 (getMethod (.ref x2) x3 x4) x5 x6 x7) : wpAny x0 x1 (getMethod (.ref x2) x3 x4) x5 x6 x7 := h
theorem gd19 {x0 : _} {x1 : _} {x2 : _} {x3 : _} {x4 : _} {x5 : _} (h : wpAny x0 x1 (compareOp CmpOp.Is (.ref x2) .none) x3 x4 x5) : wpAny x0 x1 (compareOp CmpOp.Is (.ref x2) .none) x3 x4 x5 := h
theorem gd20 {x0 : _} {x1 : _} {x2 : _} {x3 : _} {x4 : _} {x5 : _} {x6 : _} {x7 : _} {x8 : _} {x9 : _} {x10 : _} (h : wpAny x0 x1 (exec (Stmt.Assign [Expr.Subscript x2 x3 x4] x5 x6) x7) x8 x9 x10) : wpAny x0 x1 (exec (Stmt.Assign [Expr.Subscript x2 x3 x4] x5 x6) x7) x8 x9 x10 := h
theorem gd21 {x0 : _} {x1 : _} {x2 : _} {x3 : _} {x4 : _} {x5 : _} {x6 : _} {x7 : _} (h : wpAny x0 x1 (call (.ref x2) ([.ref x3] ++ x4)) x5 x6 x7) : wpAny x0 x1 (call (.ref x2) ([.ref x3] ++ x4)) x5 x6 x7 := h
theorem gd22 {x0 : _} {x1 : _} {x2 : _} {x3 : _} {x4 : _} {x5 : _} {x6 : _} {x7 : _} (h : wpAny x0 x1 (call (.builtin x2) ([.ref x3] ++ x4)) x5 x6 x7) : wpAny x0 x1 (call (.builtin x2) ([.ref x3] ++ x4)) x5 x6 x7 := h
theorem gd23 {x0 : _} {x1 : _} {x2 : _} {x3 : _} {x4 : _} {x5 : _} {x6 : _} {x7 : _} {x8 : _} {x9 : _} {x10 : _} {x11 : _} (h : wpAny x0 x1 (eval (Expr.Subscript x2 (Expr.Slice x3 x4 x5 x6) x7) x8) x9 x10 x11) : wpAny x0 x1 (eval (Expr.Subscript x2 (Expr.Slice x3 x4 x5 x6) x7) x8) x9 x10 x11 := h
theorem gd24 {x0 : _} {x1 : _} {x2 : _} {x3 : _} {x4 : _} {x5 : _} (h : wpAny x0 x1 (evalPart none x2) x3 x4 x5) : wpAny x0 x1 (evalPart none x2) x3 x4 x5 := h
theorem gd25 {x0 : _} {x1 : _} {x2 : _} {x3 : _} {x4 : _} {x5 : _} {x6 : _} (h : wpAny x0 x1 (evalPart (some x2) x3) x4 x5 x6) : wpAny x0 x1 (evalPart (some x2) x3) x4 x5 x6 := h
theorem gd26 {x0 : _} {x1 : _} {x2 : _} {x3 : _} {x4 : _} {x5 : _} {x6 : _} {x7 : _} {x8 : _} {x9 : _} {x10 : _} {x11 : _} (h : wpAny x0 x1 (eval (Expr.Call (Expr.Name x2 x3) x4 (x5 :: x6) x7) x8) x9 x10 x11) : wpAny x0 x1 (eval (Expr.Call (Expr.Name x2 x3) x4 (x5 :: x6) x7) x8) x9 x10 x11 := h
theorem gd27 {x0 : _} {x1 : _} {x2 : _} {x3 : _} {x4 : _} {x5 : _} {x6 : _} {x7 : _} {x8 : _} {x9 : _} {x10 : _} {x11 : _} {x12 : _} {x13 : _} {x14 : _} (h : wpAny x0 x1 (callWith x2 x3 x4 (backTo x5 (starEach x6 x7)) (backToKw x8 (keywordEach (x9 :: x10) x11))) x12 x13 x14) : wpAny x0 x1 (callWith x2 x3 x4 (backTo x5 (starEach x6 x7)) (backToKw x8 (keywordEach (x9 :: x10) x11))) x12 x13 x14 := h
theorem gd28 {x0 : _} {x1 : _} {x2 : _} {x3 : _} {x4 : _} {x5 : _} {x6 : _} {x7 : _} {x8 : _} {x9 : _} (h : wpAny x0 x1 (evalAll (List.map x2 (backToKw x3 (keywordEach (x4 :: x5) x6)))) x7 x8 x9) : wpAny x0 x1 (evalAll (List.map x2 (backToKw x3 (keywordEach (x4 :: x5) x6)))) x7 x8 x9 := h
theorem gd29 {x0 : _} {x1 : _} {x2 : _} {x3 : _} {x4 : _} {x5 : _} {x6 : _} {x7 : _} (h : wpAny x0 x1 (evalAll (List.map x2 (backToKw x3 (keywordEach [] x4)))) x5 x6 x7) : wpAny x0 x1 (evalAll (List.map x2 (backToKw x3 (keywordEach [] x4)))) x5 x6 x7 := h
theorem gd30 {x0 : _} {x1 : _} {x2 : _} {x3 : _} {x4 : _} {x5 : _} {x6 : _} {x7 : _} {x8 : _} {x9 : _} {x10 : _} {x11 : _} {x12 : _} (h : wpAny x0 x1 (isTrue (Expr.Compare x2 [x3, x4] [x5, x6] x7) x8 x9) x10 x11 x12) : wpAny x0 x1 (isTrue (Expr.Compare x2 [x3, x4] [x5, x6] x7) x8 x9) x10 x11 x12 := h
theorem gd31 {x0 : _} {x1 : _} {x2 : _} {x3 : _} {x4 : _} {x5 : _} {x6 : _} {x7 : _} {x8 : _} {x9 : _} (h : wpAny x0 x1 (testChain x2 x3 [x4, x5] x6) x7 x8 x9) : wpAny x0 x1 (testChain x2 x3 [x4, x5] x6) x7 x8 x9 := h
theorem gd32 {x0 : _} {x1 : _} {x2 : _} {x3 : _} {x4 : _} {x5 : _} {x6 : _} {x7 : _} {x8 : _} (h : wpAny x0 x1 (testChain x2 x3 [x4] x5) x6 x7 x8) : wpAny x0 x1 (testChain x2 x3 [x4] x5) x6 x7 x8 := h
theorem gd33 {x0 : _} {x1 : _} {x2 : _} {x3 : _} {x4 : _} {x5 : _} {x6 : _} {x7 : _} {x8 : _} {x9 : _} (h : wpAny x0 x1 (eval (Expr.BoolOp BoolOp.And (x2 :: x3 :: x4) x5) x6) x7 x8 x9) : wpAny x0 x1 (eval (Expr.BoolOp BoolOp.And (x2 :: x3 :: x4) x5) x6) x7 x8 x9 := h
theorem gd34 {x0 : _} {x1 : _} {x2 : _} {x3 : _} {x4 : _} {x5 : _} {x6 : _} {x7 : _} (h : wpAny x0 x1 (eval (Expr.BoolOp BoolOp.And [x2] x3) x4) x5 x6 x7) : wpAny x0 x1 (eval (Expr.BoolOp BoolOp.And [x2] x3) x4) x5 x6 x7 := h
end Mine

namespace Mine
local macro_rules | `(tactic| walk_at "m:mem") => `(tactic| first | exact List.Mem.head _ | assumption | (refine List.Mem.tail _ ?_; walk_at "m:mem") | (refine List.mem_append_right _ ?_; walk_at "m:mem"))
local macro_rules | `(tactic| walk_at "m:glob") => `(tactic| first | exact n_len _ | exact n_range _ | exact n_sorted _ | exact n_abs _ | exact n_list _ | exact n_enumerate _ | k_is)
local macro_rules | `(tactic| walk_at "m:boot") => `(tactic| first | exact PySem.boot_len | exact PyProof.Rows.boot_range | exact PyProof.Rows.boot_sorted | exact PyProof.Rows.boot_abs | exact PyProof.Rows.boot_list | exact PyProof.Rows.boot_enumerate)
local macro_rules | `(tactic| walk_at "m:name") => `(tactic| first
  | (refine' w_local (by assumption) ?mhb ?_; (case mhb => exact rfl))
  | (refine' w_cell (by assumption) ?mhc ?mhm ?_; (case mhc => exact rfl); (case mhm => walk_at "m:mem"))
  | (refine' w_builtin (by assumption) ?mhe ?mhv ?_; (case mhe => walk_at "m:glob"); (case mhv => walk_at "m:boot"))
  | (refine' w_global (by assumption) ?mhe ?_; (case mhe => walk_at "m:glob"))
  | (refine' w_free (by assumption) ?mhc ?mhm ?_; (case mhc => exact rfl); (case mhm => walk_at "m:mem")))
local macro_rules | `(tactic| walk_at "m:kp") => `(tactic| first | exact kp_builtin | exact kp_type | exact kp_K (by assumption) (by k_is))
local macro_rules | `(tactic| walk_at "m:step") => `(tactic| first
  | with_reducible refine wpAny_items_nil ?_
  | ((with_reducible refine gd0 ?_); refine wpAny_items_cons ?_)
  | with_reducible refine wpAny_execs_nil ?_
  | with_reducible refine wpAny_execs_cons ?_
  | ((with_reducible refine gd1 ?_); walk_at "m:name")
  | ((with_reducible refine w_int (by assumption) ?_); intro _ _ _)
  | with_reducible refine wpAny_BinOp ?_
  | with_reducible refine PyProof.Rows.Subscript_ ?_
  | ((with_reducible refine gd2 ?_); refine w_Call ?_)
  | ((with_reducible refine gd3 ?_); refine wpAny_Compare1 ?_)
  | ((with_reducible refine gd4 ?_); refine wpAny_isTrue_Compare1 ?_)
  | with_reducible refine wpAny_truthy_bool ?_
  | with_reducible refine PyProof.Rows.gt_int ?_
  | with_reducible refine PyProof.Rows.lt_int ?_
  | with_reducible refine PyProof.Rows.eq_int ?_
  | with_reducible refine PyProof.Rows.ne_int ?_
  | ((with_reducible refine w_add (by assumption) ?_); intro _ _ _)
  | ((with_reducible refine w_sub (by assumption) ?_); intro _ _ _)
  | ((with_reducible refine w_and (by assumption) ?_); intro _ _ _)
  | ((with_reducible refine w_or (by assumption) ?_); intro _ _ _)
  | ((with_reducible refine w_neg (by assumption) ?_); intro _ _ _)
  | with_reducible refine wpAny_If ?_
  | ((with_reducible refine gd5 ?_); refine wpAny_Assign_Name ?_)
  | with_reducible refine wpAny_Return_some ?_
  | with_reducible refine wpAny_IfExp ?_
  | with_reducible refine wpAny_UnaryOp ?_
  | with_reducible refine wpAny_isTrue_Not ?_
  | with_reducible refine wpAny_Constant_none ?_
  | with_reducible refine wpAny_Constant_bool ?_
  | with_reducible refine wpAny_Continue ?_
  | with_reducible refine wpAny_Break ?_
  | with_reducible refine wpAny_isTrue_BoolOp ?_
  | with_reducible refine wpAny_allTrue_And_cons ?_
  | with_reducible refine wpAny_allTrue_And_nil ?_
  | with_reducible refine wpAny_allTrue_Or_cons ?_
  | with_reducible refine wpAny_allTrue_Or_nil ?_
  | ((with_reducible refine gd6 ?_); (refine w_store (by assumption) ?_); intro _ _)
  | (with_reducible refine PyProof.Rows.Tuple_ ?_)
  | (with_reducible refine PyProof.Rows.List_ ?_)
  | (with_reducible refine' And.intro ?mkp ?_; (case mkp => walk_at "m:kp"))
  | (with_reducible refine w_range1 (by assumption) ?_; intro _ _ _)
  | (with_reducible refine w_range2 (by assumption) ?_; intro _ _ _)
  | dsimp only)

section
theorem prime3 : (fun (_ : OpenLaw) (_ : Params → Frag) => True) PySem.Challenge.rw_ft5005_01 hd.heap_39 := by k_fill; trivial
def wrongAt (r : List Int) (j : Nat) : Nat → Nat := fun k => ((List.range k).filter fun i => decide (r.getD j 0 < r.getD i 0)).length
def wrongUpto (r : List Int) (n : Nat) : Nat := ((List.range n).map fun j => wrongAt r j j).sum
def wrongF (r : List Int) : Nat := wrongUpto r r.length
theorem wrongAt_le (r : List Int) (j k : Nat) : wrongAt r j k ≤ k := by
  unfold wrongAt
  exact Nat.le_trans (List.length_filter_le _ _) (by simp)
theorem wrongAt_succ (r : List Int) (j k : Nat) : wrongAt r j (k + 1) = wrongAt r j k + (if r.getD j 0 < r.getD k 0 then 1 else 0) := by
  unfold wrongAt
  rw [List.range_succ, List.filter_append, List.length_append]
  by_cases h : r.getD j 0 < r.getD k 0
  · rw [if_pos h, List.filter_cons, if_pos (by simpa using h)]; rfl
  · rw [if_neg h, List.filter_cons, if_neg (by simpa using h)]; rfl
theorem wrongUpto_succ (r : List Int) (n : Nat) : wrongUpto r (n + 1) = wrongUpto r n + wrongAt r n n := by
  unfold wrongUpto
  rw [List.range_succ, List.map_append, List.sum_append]; simp
theorem wrongUpto_le (r : List Int) (n : Nat) (h : n ≤ 100) : wrongUpto r n ≤ n * 100 := by
  induction n with
  | zero => simp [wrongUpto]
  | succ n ih => rw [wrongUpto_succ]; have := wrongAt_le r n n; have := ih (by omega); omega
theorem c_wrong {X : Cx} {g : Array GenState} {s : Shared} {l : List Ent} {A : Around} {E : Value → Shared → Prop} {a : Addr} {r : List Int} {Q : Value → Shared → Prop} (S : St X g s l) (R : Rm A 3) (hm : (a, RowIs r) ∈ l) (hz : r.length < 100)
   (h : ∀ s' t, St X g s' l → Q (.int (wrongF r : Nat) t) s') : wpAny X.M A (call (.ref 126) [.ref a] []) Q E s := by
  refine' w_defC (binds := [(Str.ofString "row", .ref a)]) (cs := fun n => [(Str.ofString "row", n)]) S R ?ho ?hcd ?hbind ?hcs ?hnd ?h ?hkind ?hsome ?hco ?hgen ?hk
  case ho => k_is
  case hcd => k_is
  case hbind => exact BindsTo.of_eq rfl
  case hcs => intro n; rfl
  case hnd => decide
  case hkind => rfl
  case hsome => exact some_of_names (cs := fun n => [(Str.ofString "row", n)]) fun n => rfl
  case hco => rfl
  case hgen => rfl
  case hk => rfl
  intro L s1 S1
  replace S1 : St X g s1 ((L, NsHas []) :: (L + 1, CellHas (some (.ref a))) :: l) := S1
  clear S
  repeat' walk_at "m:step"
  refine w_ListComp (cl := [(Str.ofString "row", L + 1)]) (by rfl) ?_
  repeat' walk_at "m:step"
  refine w_lenRow S1 (.tail _ (.tail _ hm)) (by omega) fun s2 t S2 => ?_
  repeat' walk_at "m:step"
  rename St _ _ _ _ => S3
  refine w_iterRange1 (n := r.length) S3 (by omega) (by omega) (by omega) (by omega) (by omega) fun I s4 S4 => ?_
  refine w_compGo (It.range (A := A.deeper _) R.hh I 0 1 r.length) S4 fun C D s5 S5 => ?_
  have hmL : ∀ {p q : Ent}, (a, RowIs r) ∈ p :: q :: l := .tail _ (.tail _ hm)
  generalize hl1 : (L, NsHas []) :: (L + 1, CellHas (some (Value.ref a))) :: l = l1 at S5
  have hm1 : (a, RowIs r) ∈ l1 := hl1 ▸ .tail _ (.tail _ hm)
  have hc1 : (L + 1, CellHas (some (Value.ref a))) ∈ l1 := hl1 ▸ .tail _ (.head _)
  refine w_compLoop0 (It.range (A := A.deeper _) R.hh I 0 1 r.length) (fun i ys l' => l' = l1 ∧ ys.length = wrongUpto r i) (fun _ _ _ _ _ hp => nomatch hp) S5 ⟨rfl, rfl⟩ ?_ ?_ rfl rfl
  · rintro j v ys l6 s6 hj ⟨t1, rfl⟩ ⟨hl6, hy⟩ S6
    subst l6
    simp only [Int.zero_add, Int.mul_one] at S6 ⊢
    repeat' walk_at "m:step"
    rename St _ _ _ _ => S7
    refine w_iterRange1 (n := j) S7 (by omega) (by omega) (by omega) (by omega) (by omega) fun I2 s8 S8 => ?_
    have S9 := S8.swap
    generalize hI : (I, RIterIs (↑(j + 1)) (↑r.length - ↑(j + 1)) 1) = eI at S9 ⊢
    have S10 := S9.perm (List.Perm.cons _ (List.Perm.cons _ (List.Perm.swap (D, ListIs ys) eI l1)))
    refine w_compLoop1 (It.range (A := A.deeper _) R.hh I2 0 1 j) (fun i ys' l' => l' = eI :: l1 ∧ ys'.length = wrongUpto r j + wrongAt r j i ∧ i ≤ j) ?_ S10 ⟨rfl, hy, Nat.zero_le _⟩ ?_ ?_ rfl rfl
    · rintro i ys' l' ⟨rfl, h1, h2⟩
      refine ⟨fun _ hp => (nomatch hp), ?_⟩
      have := wrongUpto_le r j (by omega)
      have := wrongAt_le r j i
      rw [sizeLine_eq]; omega
    · rintro i v ys' l' s11 hi ⟨t2, rfl⟩ ⟨rfl, hy', hij⟩ S11
      simp only [Int.zero_add, Int.mul_one] at S11 ⊢
      refine wpAny_tests_one ?_
      repeat' walk_at "m:step"
      refine w_itemRow S11 (by walk_at "m:mem") (by omega) (by omega) (by omega) fun t3 => ?_
      repeat' walk_at "m:step"
      refine w_itemRow S11 (by walk_at "m:mem") (by omega) (by omega) (by omega) fun t3 => ?_
      repeat' walk_at "m:step"
      simp only [Int.toNat_natCast, decide_eq_true_eq]
      split
      · rename_i hlt
        refine w_int S11 fun s12 t4 S12 => ⟨_, ⟨rfl, ?_, by omega⟩, S12.wk .here (NsHas.wk fun p hp => ?_)⟩
        · rw [List.length_append, hy', wrongAt_succ, if_pos hlt]; rfl
        · rw [List.mem_singleton.mp hp]; rfl
      · rename_i hlt
        refine ⟨_, ⟨rfl, ?_, by omega⟩, S11.wk .here (NsHas.wk fun p hp => ?_)⟩
        · rw [hy', wrongAt_succ, if_neg hlt]; rfl
        · rw [List.mem_singleton.mp hp]; rfl
    · rintro ys' l' s11 ⟨rfl, hy', _⟩ S11
      refine ⟨ys', _, ⟨rfl, by rw [hy', wrongUpto_succ]⟩, ?_⟩
      subst hI
      have S12 := S11.wk .here (NsHas.wk (b' := []) fun p hp => (nomatch hp))
      exact S12.perm (List.Perm.cons _ (List.Perm.swap _ _ _))
  · rintro ys l6 s6 ⟨hl6, hy⟩ S6
    subst l6
    refine compPost_none S6 fun s7 S7 => ?_
    repeat' walk_at "m:step"
    refine w_lenList S7 (.head _) (by rw [hy]; have := wrongUpto_le r r.length (by omega); omega) fun s8 t8 S8 => ?_
    dsimp only [retOf]
    rw [hy]
    refine h _ _ (S8.sub ?_)
    rw [← hl1]
    exact ((List.Sublist.refl l).cons _).cons _ |>.cons _
end

section
theorem primeEq : (fun (_ : OpenLaw) (_ : Params → Frag) => True) PySem.Challenge.rw_ft5005_01 hd.heap_39 := by k_fill; trivial
open PySem.SeqAt PyProof.V PySem.Spec

inductive All2 {α β : Type} (R : α → β → Prop) : List α → List β → Prop
  | nil : All2 R [] []
  | cons {a b x y} : R a b → All2 R x y → All2 R (a :: x) (b :: y)
theorem All2.mono {α β : Type} {R R' : α → β → Prop} (hR : ∀ a b, R a b → R' a b) {x : List α} {y : List β} (h : All2 R x y) : All2 R' x y := by
  induction h with
  | nil => exact .nil
  | cons h _ ih => exact .cons (hR _ _ h) ih
theorem All2.length {α β : Type} {R : α → β → Prop} {x : List α} {y : List β} (h : All2 R x y) : x.length = y.length := by
  induction h with
  | nil => rfl
  | cons _ _ ih => simp [ih]
theorem All2.append {α β : Type} {R : α → β → Prop} {x x' : List α} {y y' : List β} (h : All2 R x y) (h' : All2 R x' y') : All2 R (x ++ x') (y ++ y') := by
  induction h with
  | nil => exact h'
  | cons h _ ih => exact .cons h ih
theorem All2.get {α β : Type} {R : α → β → Prop} {x : List α} {y : List β} (h : All2 R x y) : ∀ {i : Nat} {a : α}, x[i]? = some a → ∃ b, y[i]? = some b ∧ R a b := by
  induction h with
  | nil => intro i a e; simp at e
  | cons h _ ih =>
    intro i a e
    cases i with
    | zero => simp only [List.getElem?_cons_zero, Option.some.injEq] at e ⊢; subst e; exact ⟨_, rfl, h⟩
    | succ i => simp only [List.getElem?_cons_succ] at e ⊢; exact ih e
theorem All2.get' {α β : Type} {R : α → β → Prop} {x : List α} {y : List β} (h : All2 R x y) : ∀ {i : Nat} {b : β}, y[i]? = some b → ∃ a, x[i]? = some a ∧ R a b := by
  induction h with
  | nil => intro i a e; simp at e
  | cons h _ ih =>
    intro i a e
    cases i with
    | zero => simp only [List.getElem?_cons_zero, Option.some.injEq] at e ⊢; subst e; exact ⟨_, rfl, h⟩
    | succ i => simp only [List.getElem?_cons_succ] at e ⊢; exact ih e
theorem All2.set {α β : Type} {R : α → β → Prop} {x : List α} {y : List β} (h : All2 R x y) {a : α} {b : β} (hab : R a b) : ∀ i, All2 R (x.set i a) (y.set i b) := by
  induction h with
  | nil => intro i; simp; exact .nil
  | cons h t ih =>
    intro i
    cases i with
    | zero => simp only [List.set_cons_zero]; exact .cons hab t
    | succ i => simp only [List.set_cons_succ]; exact .cons h (ih i)
theorem All2.dropLast {α β : Type} {R : α → β → Prop} {x : List α} {y : List β} (h : All2 R x y) : All2 R x.dropLast y.dropLast := by
  induction h with
  | nil => exact .nil
  | cons h t ih =>
    cases t with
    | nil => exact .nil
    | cons h' t' => exact .cons h ih
theorem All2.mem {α β : Type} {R : α → β → Prop} {x : List α} {y : List β} (h : All2 R x y) : ∀ a ∈ x, ∃ b ∈ y, R a b := by
  induction h with
  | nil => intro a ha; cases ha
  | cons h _ ih =>
    intro a ha
    rcases List.mem_cons.mp ha with rfl | ha
    · exact ⟨_, .head _, h⟩
    · obtain ⟨b, hb, e⟩ := ih a ha; exact ⟨b, .tail _ hb, e⟩
def RowsAre (l : List Ent) (vs : List Value) (rs : List (List Int)) : Prop := All2 (fun v r => ∃ a, v = .ref a ∧ (a, RowIs r) ∈ l) vs rs
theorem RowsAre.mono {l l' : List Ent} {vs : List Value} {rs : List (List Int)} (h : RowsAre l vs rs) (hl : ∀ a r, (a, RowIs r) ∈ l → (a, RowIs r) ∈ l') : RowsAre l' vs rs := by
  induction h with
  | nil => exact .nil
  | cons h _ ih => exact .cons (let ⟨a, e, m⟩ := h; ⟨a, e, hl _ _ m⟩) ih
theorem RowsAre.length {l : List Ent} {vs : List Value} {rs : List (List Int)} (h : RowsAre l vs rs) : vs.length = rs.length := by
  induction h with
  | nil => rfl
  | cons _ _ ih => simp [ih]
theorem RowsAre.append {l : List Ent} {vs us : List Value} {rs qs : List (List Int)} (h : RowsAre l vs rs) (h' : RowsAre l us qs) : RowsAre l (vs ++ us) (rs ++ qs) := by
  induction h with
  | nil => exact h'
  | cons h _ ih => exact .cons h ih
theorem RowsAre.get {l : List Ent} {vs : List Value} {rs : List (List Int)} (h : RowsAre l vs rs) : ∀ {i : Nat} {v : Value}, vs[i]? = some v → ∃ a r, v = .ref a ∧ rs[i]? = some r ∧ (a, RowIs r) ∈ l := by
  induction h with
  | nil => intro i v e; simp at e
  | cons h _ ih =>
    intro i v e
    cases i with
    | zero => simp only [List.getElem?_cons_zero, Option.some.injEq] at e ⊢; subst e; obtain ⟨a, e, m⟩ := h; exact ⟨a, _, e, rfl, m⟩
    | succ i => simp only [List.getElem?_cons_succ] at e ⊢; exact ih e

def rowD (r : List Int) : PyData := .tuple (r.map .int)
def rowsD (rs : List (List Int)) : PyData := .list (rs.map rowD)
theorem eqv_row (r q : List Int) : PyData.eqv (rowD r) (rowD q) = decide (r = q) := by
  unfold rowD; simp only [PyData.eqv]; exact ked_eqvAll r q
theorem eqv_rowsAll : ∀ rs qs : List (List Int), PyData.eqvAll (rs.map rowD) (qs.map rowD) = decide (rs = qs)
  | [], [] => by simp [PyData.eqvAll]
  | [], _ :: _ => by simp [PyData.eqvAll]
  | _ :: _, [] => by simp [PyData.eqvAll]
  | a :: r, b :: t => by
    simp only [List.map_cons, PyData.eqvAll, eqv_row, eqv_rowsAll r t]
    by_cases h : a = b <;> by_cases h' : r = t <;> simp [h, h']
theorem eqv_rows (rs qs : List (List Int)) : PyData.eqv (rowsD rs) (rowsD qs) = decide (rs = qs) := by
  unfold rowsD; simp only [PyData.eqv]; exact eqv_rowsAll rs qs
theorem shaped_row (r : List Int) : shaped (rowD r) = true := by
  simp [shaped, rowD, PyData.canLay0, PyData.depth, ke_canLayAll0, ke_depthAll]
theorem canLay_rows : ∀ rs : List (List Int), PyData.canLayAll0 (rs.map rowD) = true
  | [] => rfl
  | r :: t => by simp [PyData.canLayAll0, canLay_rows t, rowD, PyData.canLay0, ke_canLayAll0]
theorem depth_rows : ∀ rs : List (List Int), PyData.depthAll (rs.map rowD) ≤ 1
  | [] => Nat.zero_le _
  | r :: t => by
    have := depth_rows t
    simp [PyData.depthAll, rowD, PyData.depth, ke_depthAll]; omega
theorem shaped_rows (rs : List (List Int)) : shaped (rowsD rs) = true := by
  have := depth_rows rs
  simp [shaped, rowsD, PyData.canLay0, PyData.depth, canLay_rows]; omega

section
variable {X : Cx} {g : Array GenState} {s : Shared} {l l' : List Ent} {A : Around} {E : Value → Shared → Prop} {env : Env}
theorem reads_intsAll {h : Heap} : ∀ {vs : List Value} {ns : List Int}, IntsAre vs ns → ReadsAll h vs (ns.map PyData.int) []
  | _, _, .nil => .nil
  | _, _, .cons n t r => readsAll_cons_val (.int _ _) (reads_intsAll r)
theorem St.readRow (S : St X g s l) {a : Addr} {r : List Int} (h : (a, RowIs r) ∈ l) : Reads s.heap (.ref a) (rowD r) [] := by
  obtain ⟨o, ho, vs, ⟨n, rfl⟩, hi⟩ := S.mem h
  exact reads_tuple_at ho rfl rfl (by simpa using reads_intsAll hi)
theorem St.readRowsAll (S : St X g s l) {vs : List Value} {rs : List (List Int)} (h : RowsAre l vs rs) : ReadsAll s.heap vs (rs.map rowD) [] := by
  induction h with
  | nil => exact .nil
  | cons h _ ih => obtain ⟨a, rfl, m⟩ := h; exact readsAll_cons_val (S.readRow m) ih
theorem St.readRows (S : St X g s l) {D : Addr} {vs : List Value} {rs : List (List Int)} (hm : (D, ListIs vs) ∈ l) (h : RowsAre l vs rs) : ∃ as, Reads s.heap (.ref D) (rowsD rs) as := by
  obtain ⟨o, ho, n, rfl⟩ := S.mem hm
  exact ⟨_, reads_list_at ho rfl rfl (by simpa using S.readRowsAll h)⟩
theorem w_eqRow {a b : Addr} {r q : List Int} {Q : Value → Shared → Prop} (S : St X g s l) (hu : A.units + 64 < cLine) (ha : (a, RowIs r) ∈ l) (hb : (b, RowIs q) ∈ l) (h : Q (.bool (decide (r = q))) s) : wpAny X.M A (compareOp .Eq (.ref a) (.ref b)) Q E s :=
  eq_dataH (S.readRow ha) (S.readRow hb) (shaped_row _) (shaped_row _) hu (by rw [eqv_row]; exact h)
theorem w_eqRows {a b : Addr} {vs us : List Value} {rs qs : List (List Int)} {Q : Value → Shared → Prop} (S : St X g s l) (hu : A.units + 64 < cLine) (ha : (a, ListIs vs) ∈ l) (hb : (b, ListIs us) ∈ l) (hr : RowsAre l vs rs) (hq : RowsAre l us qs)
    (h : Q (.bool (decide (rs = qs))) s) : wpAny X.M A (compareOp .Eq (.ref a) (.ref b)) Q E s := by
  obtain ⟨_, r1⟩ := S.readRows ha hr
  obtain ⟨_, r2⟩ := S.readRows hb hq
  exact eq_dataH r1 r2 (shaped_rows _) (shaped_rows _) hu (by rw [eqv_rows]; exact h)
theorem w_neRows {a b : Addr} {vs us : List Value} {rs qs : List (List Int)} {Q : Value → Shared → Prop} (S : St X g s l) (hu : A.units + 64 < cLine) (ha : (a, ListIs vs) ∈ l) (hb : (b, ListIs us) ∈ l) (hr : RowsAre l vs rs) (hq : RowsAre l us qs)
    (h : Q (.bool (!decide (rs = qs))) s) : wpAny X.M A (compareOp .NotEq (.ref a) (.ref b)) Q E s := by
  obtain ⟨_, r1⟩ := S.readRows ha hr
  obtain ⟨_, r2⟩ := S.readRows hb hq
  exact ne_dataH r1 r2 (shaped_rows _) (shaped_rows _) hu (by rw [eqv_rows]; exact h)
theorem w_eqInts {a b : Addr} {vs us : List Value} {rs qs : List Int} {Q : Value → Shared → Prop} (S : St X g s l) (hu : A.units + 64 < cLine) (ha : (a, ListIs vs) ∈ l) (hb : (b, ListIs us) ∈ l) (hr : IntsAre vs rs) (hq : IntsAre us qs)
    (h : Q (.bool (decide (rs = qs))) s) : wpAny X.M A (compareOp .Eq (.ref a) (.ref b)) Q E s :=
  ke_eq_ints (S.isList ha) (S.isList hb) hr hq hu h
theorem w_neInts {a b : Addr} {vs us : List Value} {rs qs : List Int} {Q : Value → Shared → Prop} (S : St X g s l) (hu : A.units + 64 < cLine) (ha : (a, ListIs vs) ∈ l) (hb : (b, ListIs us) ∈ l) (hr : IntsAre vs rs) (hq : IntsAre us qs)
    (h : Q (.bool (!decide (rs = qs))) s) : wpAny X.M A (compareOp .NotEq (.ref a) (.ref b)) Q E s :=
  ke_ne_ints (S.isList ha) (S.isList hb) hr hq hu h

theorem St.eqRow (S : St X g s l) (hu : A.units < cLine) {a b : Addr} {r q : List Int} (ha : (a, RowIs r) ∈ l) (hb : (b, RowIs q) ∈ l) : EqAt A s (.ref a) (.ref b) (decide (r = q)) := by
  intro prog w E Q h
  obtain ⟨o, ho, vs, ⟨n, rfl⟩, hi⟩ := S.mem ha
  obtain ⟨o', ho', vs', ⟨n', rfl⟩, hi'⟩ := S.mem hb
  have key : ∀ {vs : List Value} {r : List Int}, IntsAre vs r → ItemsAre (intKind prog w) r vs := by
    intro vs r h
    induction h with
    | nil => exact .nil
    | cons n t _ ih => exact .cons (by simp [intKind, Value.isInt]) ih
  exact wpAny_eqBool_tuple (knd := intKind prog w) hu ⟨_, _, _, ho, rfl, rfl, by simpa using key hi⟩ ⟨_, _, _, ho', rfl, rfl, by simpa using key hi'⟩ h

def PairIs (k : Int) (a : Addr) (o : Obj) : Prop := ∃ t, TupIs [.int k t, .ref a] o
theorem St.isTuple (S : St X g s l) {p : Addr} {vs : List Value} (hp : (p, TupIs vs) ∈ l) : s.heap.IsTuple p vs.toArray := by
  obtain ⟨o, ho, n, rfl⟩ := S.mem hp; exact ⟨_, ho, rfl, n, rfl⟩
theorem St.isPair (S : St X g s l) {p a : Addr} {k : Int} (hp : (p, PairIs k a) ∈ l) : ∃ t, s.heap.IsTuple p #[.int k t, .ref a] := by
  obtain ⟨o, ho, t, n, rfl⟩ := S.mem hp; exact ⟨t, _, ho, rfl, n, rfl⟩
theorem eqIntAt {x y : Int} {t u : Tok} : EqAt A s (.int x t) (.int y u) (x == y) := fun prog w E Q h => wpAny_eqBool_int h
theorem isTuple_inj {h : Heap} {p : Addr} {x y : Array Value} (hx : h.IsTuple p x) (hy : h.IsTuple p y) : x = y := by
  obtain ⟨o, ho, _, n, hd⟩ := hx
  obtain ⟨o', ho', _, n', hd'⟩ := hy
  rw [ho] at ho'; cases ho'; rw [hd] at hd'; injection hd'
theorem St.row_inj (S : St X g s l) {a : Addr} {r q : List Int} (ha : (a, RowIs r) ∈ l) (hb : (a, RowIs q) ∈ l) : r = q := by
  obtain ⟨o, ho, vs, ⟨n, rfl⟩, hi⟩ := S.mem ha
  obtain ⟨o', ho', vs', ⟨n', rfl⟩, hi'⟩ := S.mem hb
  rw [ho] at ho'; cases ho'
  have key : ∀ {vs : List Value} {r q : List Int}, IntsAre vs r → IntsAre vs q → r = q := by
    intro vs r q h h'
    induction h generalizing q with
    | nil => cases h'; rfl
    | cons n t _ ih => cases h' with | cons _ _ r' => rw [ih r']
  exact key hi hi'
theorem St.eqPair (S : St X g s l) (hu : A.units + 1 < cLine) {p q a b : Addr} {k k' : Int} {r r' : List Int} (hp : (p, PairIs k a) ∈ l) (hq : (q, PairIs k' b) ∈ l) (ha : (a, RowIs r) ∈ l) (hb : (b, RowIs r') ∈ l) :
    EqAt A s (.ref p) (.ref q) (decide (k = k' ∧ r = r')) := by
  obtain ⟨t, h1⟩ := S.isPair hp
  obtain ⟨u, h2⟩ := S.isPair hq
  by_cases e : p = q
  · subst e
    have := isTuple_inj h1 h2
    simp only [Array.mk.injEq, List.cons.injEq, Value.int.injEq, Value.ref.injEq, and_true] at this
    obtain ⟨⟨rfl, _⟩, rfl⟩ := this
    obtain rfl := S.row_inj ha hb
    rw [decide_eq_true ⟨rfl, rfl⟩]
    exact EqAt.same _
  · refine EqAt.of_refs e ?_
    have := RcAt.tuples (A := A) (s := s) (e := fun j => if j = 0 then k == k' else decide (r = r')) h1 h2 (by omega) ?_
    · have e2 : (((List.range (min #[Value.int k t, Value.ref a].size #[Value.int k' u, Value.ref b].size)).all fun j => if j = 0 then k == k' else decide (r = r')) && #[Value.int k t, Value.ref a].size == #[Value.int k' u, Value.ref b].size) = decide (k = k' ∧ r = r') := by
        by_cases h1 : k = k' <;> by_cases h2 : r = r' <;> simp [h1, h2, List.range_succ]
      rw [← e2]; exact this
    · intro j j1 j2
      simp only [List.size_toArray, List.length_cons, List.length_nil] at j1 j2
      match j, j1 with
      | 0, _ => exact eqIntAt
      | 1, _ => exact S.eqRow (show A.units + 1 < cLine from hu) ha hb
end
end

section
open PySem.SeqAt PyProof.V PySem.Spec
theorem plain_sift : plainId "_heapq.heapify.sift" = true := by decide +kernel
theorem entry_sift : entryFor table "_heapq.heapify.sift" = some Builtin.«_heapq.heapify.sift» := entryFor_of_fast (by kernel_rfl)
theorem entry_heappush : entryFor table "_heapq.heappush" = some Builtin.«_heapq.heappush» := entryFor_of_fast (by kernel_rfl)
theorem kind_heappush : builtinKind "_heapq.heappush" = none := by decide +kernel
theorem plain_heappush : plainId "_heapq.heappush" = true := by decide +kernel
theorem args_heappush (a b : Value) : argsOk "_heapq.heappush" ⟨[a, b], []⟩ := by unfold argsOk; kernel_rfl
theorem entry_heappop : entryFor table "_heapq.heappop" = some Builtin.«_heapq.heappop» := entryFor_of_fast (by kernel_rfl)
theorem kind_heappop : builtinKind "_heapq.heappop" = none := by decide +kernel
theorem plain_heappop : plainId "_heapq.heappop" = true := by decide +kernel
theorem args_heappop (a : Value) : argsOk "_heapq.heappop" ⟨[a], []⟩ := by unfold argsOk; kernel_rfl
section
variable {X : Cx} {g : Array GenState} {s : Shared} {l l' : List Ent} {A : Around} {E : Value → Shared → Prop} {env : Env}

def LtAt (A : Around) (s : Shared) (y x : Value) (b : Bool) : Prop :=
  ∀ (prog : Program) (w : World) (E : Value → Shared → Prop) (Q : Value → Shared → Prop), Q (.bool b) s → wpAny (model prog w) A (richCompare .Lt y x) Q E s
inductive LtRun (A : Around) (s : Shared) : List Value → List Value → Bool → Prop
  | nil {ys} : LtRun A s [] ys (decide (0 < ys.length))
  | nilr {x xs} : LtRun A s (x :: xs) [] false
  | eq {x y xs ys b} : EqAt A s x y true → LtRun A s xs ys b → LtRun A s (x :: xs) (y :: ys) b
  | ne {x y xs ys b} : EqAt A s x y false → LtAt A s x y b → LtRun A s (x :: xs) (y :: ys) b

theorem lt_ofInt {x y : Int} {t u : Tok} : LtAt A s (.int x t) (.int y u) (decide (x < y)) := fun prog w E Q h => lt_int h

theorem tuple_lt_tree {prog : Program} {w : World} {a b : Addr} {xs ys : Array Value} {res : Bool} {P : PySem.Fin → Shared → Prop} (hx : s.heap.IsTuple a xs) (hy : s.heap.IsTuple b ys) (hr : LtRun A s xs.toList ys.toList res) (h : P (.done (.ret (.bool res))) s) :
    wpAny (model prog w) A (Builtin.«tuple.__lt__» ⟨[.ref a, .ref b], []⟩) P E s := by
  obtain ⟨ob, hob, hcb, nb, hdb⟩ := hy
  obtain ⟨oa, hoa, hca, na, hda⟩ := hx
  have hTb : s.TypeIs (.ref b) "tuple" := ⟨ob, hob, hcb⟩
  show wpAny _ _ (isInstance (.ref b) (.type "tuple") >>= _) _ _ s
  refine wpAny_bind (wpAny_isInstance hTb isSubtype_tuple_tuple ?_)
  simp only [Bool.not_true, Bool.false_eq_true, if_false]
  refine wpAny_bind (wpAny_tupleItemsOf hoa hda ?_)
  refine wpAny_bind (wpAny_tupleItemsOf hob hdb ?_)
  refine wpAny_bind ?_
  refine wpAny_forIn_list _
    (fun rest r s' => r.1 = none ∧ s' = s ∧ ∃ xs' ys', rest = List.zip xs' ys' ∧ LtRun A s xs' ys' res ∧ (xs'.length < ys'.length ↔ xs.size < ys.size))
    _ ?_ ?_ _ _ ⟨rfl, rfl, xs.toList, ys.toList, rfl, hr, by simp⟩
  · rintro ⟨u, v⟩ rest r s' ⟨hr, rfl, xs', ys', hz, hl, hlen⟩
    cases hl with
    | nil => simp at hz
    | nilr => simp at hz
    | @eq x y xs'' ys'' _ he hl' =>
      simp only [List.zip_cons_cons, List.cons.injEq, Prod.mk.injEq] at hz
      obtain ⟨⟨rfl, rfl⟩, rfl⟩ := hz
      refine wpAny_bind (he _ _ _ _ ?_)
      simp only [Bool.not_true, Bool.false_eq_true, if_false]
      exact wpAny_pure ⟨rfl, rfl, xs'', ys'', rfl, hl', by simpa using hlen⟩
    | @ne x y xs'' ys'' _ he hl' =>
      simp only [List.zip_cons_cons, List.cons.injEq, Prod.mk.injEq] at hz
      obtain ⟨⟨rfl, rfl⟩, rfl⟩ := hz
      refine wpAny_bind (he _ _ _ _ ?_)
      simp only [Bool.not_false, if_true]
      refine wpAny_bind (wpAny_rule ?_)
      refine wpAny_bind (hl' _ _ _ _ ?_)
      exact wpAny_bind (wpAny_pure (wpAny_pure (wpAny_pure h)))
  · rintro ⟨r1, r2⟩ s' ⟨hr1, rfl, xs', ys', hz, hl, hlen⟩
    obtain rfl : r1 = none := hr1
    refine wpAny_pure ?_
    show P (.done (.ret (.bool (decide (xs.size < ys.size))))) s'
    have e : decide (xs.size < ys.size) = res := by
      cases hl with
      | nil => rw [decide_eq_decide]; rw [← hlen]; simp
      | nilr => rw [decide_eq_false]; rw [← hlen]; simp
      | eq _ _ => simp at hz
      | ne _ _ => simp at hz
    rw [e]; exact h

theorem LtAt.tuples {a b : Addr} {xs ys : Array Value} {res : Bool} (hx : s.heap.IsTuple a xs) (hy : s.heap.IsTuple b ys) (hu : A.units < cLine) (hr : LtRun A.in1 s xs.toList ys.toList res) : LtAt A s (.ref a) (.ref b) res := by
  intro prog w E Q h
  obtain ⟨ob, hob, hcb, nb, hdb⟩ := id hy
  obtain ⟨oa, hoa, hca, na, hda⟩ := id hx
  exact wpAny_richCompare_same_room (op := .Lt) ⟨_, hoa, hca⟩ ⟨_, hob, hcb⟩ F.slot_tuple_lt
      (wpAny_call_entry F.slot_tuple_lt ⟨_, hoa, hca⟩ F.entry_tuple_lt (tuple_lt_tree hx hy hr ⟨_, rfl, (fun e => nomatch e), h⟩) (F.args_tuple_lt_2 _ _)) hu

def rowLt : List Int → List Int → Bool
  | [], q => decide (0 < q.length)
  | _ :: _, [] => false
  | x :: r, y :: q => if x = y then rowLt r q else decide (x < y)
theorem ltRun_ints : ∀ {vs us : List Value} {r q : List Int}, IntsAre vs r → IntsAre us q → LtRun A s vs us (rowLt r q)
  | _, _, _, _, .nil, h => by
    have : ∀ {us : List Value} {q : List Int}, IntsAre us q → us.length = q.length := fun h => h.length
    rw [rowLt, ← this h]; exact .nil
  | _, _, _, _, .cons _ _ _, .nil => .nilr
  | _, _, _, _, .cons x t h, .cons y u h' => by
    rw [rowLt]
    by_cases e : x = y
    · subst e
      rw [if_pos rfl]
      exact .eq (by have := eqIntAt (A := A) (s := s) (x := x) (y := x) (t := t) (u := u); rwa [beq_self_eq_true] at this) (ltRun_ints h h')
    · rw [if_neg e]
      refine .ne ?_ lt_ofInt
      have := eqIntAt (A := A) (s := s) (x := x) (y := y) (t := t) (u := u)
      rwa [beq_eq_false_iff_ne.mpr e] at this
theorem rowLt_irrefl : ∀ r : List Int, rowLt r r = false
  | [] => rfl
  | x :: r => by rw [rowLt, if_pos rfl, rowLt_irrefl r]
theorem St.isTupRow (S : St X g s l) {a : Addr} {r : List Int} (h : (a, RowIs r) ∈ l) : ∃ vs, s.heap.IsTuple a vs.toArray ∧ IntsAre vs r := by
  obtain ⟨o, ho, vs, ⟨n, rfl⟩, hi⟩ := S.mem h
  exact ⟨vs, ⟨_, ho, rfl, n, rfl⟩, hi⟩
theorem St.ltRow (S : St X g s l) (hu : A.units < cLine) {a b : Addr} {r q : List Int} (ha : (a, RowIs r) ∈ l) (hb : (b, RowIs q) ∈ l) : LtAt A s (.ref a) (.ref b) (rowLt r q) := by
  obtain ⟨vs, h1, i1⟩ := S.isTupRow ha
  obtain ⟨us, h2, i2⟩ := S.isTupRow hb
  exact LtAt.tuples h1 h2 hu (by simpa using ltRun_ints i1 i2)
def pairLt (k : Int) (r : List Int) (k' : Int) (r' : List Int) : Bool := if k = k' then rowLt r r' else decide (k < k')
theorem ltRun_pair (S : St X g s l) (hu : A.units < cLine) {a b : Addr} {k k' : Int} {t u : Tok} {r r' : List Int} (ha : (a, RowIs r) ∈ l) (hb : (b, RowIs r') ∈ l) : LtRun A s [.int k t, .ref a] [.int k' u, .ref b] (pairLt k r k' r') := by
  unfold pairLt
  by_cases e : k = k'
  · subst e
    rw [if_pos rfl]
    refine .eq (by have := eqIntAt (A := A) (s := s) (x := k) (y := k) (t := t) (u := u); rwa [beq_self_eq_true] at this) ?_
    by_cases e2 : r = r'
    · subst e2
      rw [rowLt_irrefl]
      refine .eq ?_ ?_
      · have := S.eqRow hu ha hb; rwa [decide_eq_true rfl] at this
      · exact LtRun.nil (ys := [])
    · refine .ne ?_ (S.ltRow hu ha hb)
      have := S.eqRow hu ha hb; rwa [decide_eq_false e2] at this
  · rw [if_neg e]
    refine .ne ?_ lt_ofInt
    have := eqIntAt (A := A) (s := s) (x := k) (y := k') (t := t) (u := u)
    rwa [beq_eq_false_iff_ne.mpr e] at this
theorem St.ltPair (S : St X g s l) (hu : A.units + 1 < cLine) {p q a b : Addr} {k k' : Int} {r r' : List Int} (hp : (p, PairIs k a) ∈ l) (hq : (q, PairIs k' b) ∈ l) (ha : (a, RowIs r) ∈ l) (hb : (b, RowIs r') ∈ l) :
    LtAt A s (.ref p) (.ref q) (pairLt k r k' r') := by
  obtain ⟨t, h1⟩ := S.isPair hp
  obtain ⟨u, h2⟩ := S.isPair hq
  exact LtAt.tuples h1 h2 (by omega) (ltRun_pair S (show A.units + 1 < cLine from hu) ha hb)
end
end

section
open PySem.SeqAt PyProof.V PySem.Spec
section
variable {X : Cx} {g : Array GenState} {s : Shared} {l l' : List Ent} {A : Around} {E : Value → Shared → Prop} {env : Env}
def hSwap (hs : List Nat) (i j : Nat) : List Nat := (hs.set i (hs.getD j 0)).set j (hs.getD i 0)
def hUp (lt : Nat → Nat → Bool) : Nat → List Nat → Nat → List Nat
  | 0, hs, _ => hs
  | f + 1, hs, pos => if pos = 0 then hs else if lt (hs.getD pos 0) (hs.getD ((pos - 1) / 2) 0) then hUp lt f (hSwap hs ((pos - 1) / 2) pos) ((pos - 1) / 2) else hs
def hChild (lt : Nat → Nat → Bool) (hs : List Nat) (pos : Nat) : Nat := if 2 * pos + 1 + 1 < hs.length ∧ lt (hs.getD (2 * pos + 1) 0) (hs.getD (2 * pos + 1 + 1) 0) = false then 2 * pos + 1 + 1 else 2 * pos + 1
def hDown (lt : Nat → Nat → Bool) : Nat → List Nat → Nat → List Nat
  | 0, hs, _ => hs
  | f + 1, hs, pos => if pos < hs.length / 2 then hDown lt f (hSwap hs (hChild lt hs pos) pos) (hChild lt hs pos) else hUp lt (pos + 1) hs pos

theorem at_ok {bad : Sem Value} {o : Option Value} {v : Value} {Q : Value → Shared → Prop} {M : Model} (ho : o = some v) (h : Q v s) : wpAny M A (match o with | some v => pure v | none => bad) Q E s := by
  subst ho; exact wpAny_pure h
theorem All2.getD {α β : Type} {R : α → β → Prop} {x : List α} {y : List β} (h : All2 R x y) {i : Nat} {b : β} (hi : i < y.length) : ∃ a, x[i]? = some a ∧ R a (y.getD i b) := by
  obtain ⟨a, h1, h2⟩ := h.get' (i := i) (b := y[i]) (by simp [hi])
  exact ⟨a, h1, by simpa [hi] using h2⟩
theorem hSwap_length (hs : List Nat) (i j : Nat) : (hSwap hs i j).length = hs.length := by simp [hSwap]
theorem All2.hSwap {R : Value → Nat → Prop} {vs : List Value} {hs : List Nat} (h : All2 R vs hs) {i j : Nat} {u v : Value} (hu : R u (hs.getD i 0)) (hv : R v (hs.getD j 0)) : All2 R ((vs.set i v).set j u) (hSwap hs i j) :=
  (h.set hv i).set hu j
/-- the swap of two places -/
theorem swap_st {D : Addr} {vs : List Value} {n i j : Nat} {u v : Value} (S : St X g s ((D, ListIs vs) :: l)) (ho : s.heap.get? D = some { cls := .type "list", data := .seq vs.toArray n }) :
    St X g { s with heap := s.heap.update D (Obj.mapSeq fun xs => (xs.setIfInBounds i v).setIfInBounds j u) } ((D, ListIs ((vs.set i v).set j u)) :: l) := by
  refine S.upd (s' := { s with heap := s.heap.update D _ }) .here (fun b o hb e => (Heap.SameBut.update ..).extBut b o hb e) (Heap.get?_update_self _ ho rfl) ?_
  simp [ListIs, Obj.mapSeq]
theorem sift_up {R : Value → Nat → Prop} {lt : Nat → Nat → Bool} {D : Addr} {result : Value} {Rr : Result → Shared → Prop}
    (hcmp : ∀ s' vs' u v i j, St X g s' ((D, ListIs vs') :: l) → R u i → R v j → LtAt A.in1 s' u v (lt i j))
    (f : Nat) : ∀ (pos : Nat) (vs : List Value) (hs : List Nat) (s : Shared), pos < f → pos < hs.length → hs.length ≤ 1000 → All2 R vs hs → St X g s ((D, ListIs vs) :: l) →
    (∀ vs' s', All2 R vs' (hUp lt f hs pos) → St X g s' ((D, ListIs vs') :: l) → Rr (.ok (.ret result)) s') →
    wpAny X.M A.in1 (Builtin.«_heapq.heapify.sift» ⟨[.ref D, .bool false, .bool false, rawInt pos, rawInt 0, result, rawInt (-1)], []⟩) (fun fin s' => match fin with | .done f => Rr (.ok f) s' | .again c' => c'.quiet = true ∧ codeAny X.M A c' Rr s') (fun e s' => Rr (.error e) s') s := by
  induction f with
  | zero => intro pos vs hs s h; omega
  | succ f ih =>
    intro pos vs hs s hpf hpl hz ha S hR
    obtain ⟨n, ho⟩ := S.plainList (.head _)
    unfold Builtin.«_heapq.heapify.sift»
    dsimp only [rawInt]
    refine wpAny_bind ?_
    refine wpAny_bind (wpAny_seqItems ho rfl ?_)
    refine wpAny_pure ?_
    show wpAny _ _ (if (pos : Int).toNat > Int.toNat 0 then _ else _) _ _ _
    simp only [Int.toNat_natCast]
    rw [hUp] at hR
    by_cases h0 : pos = 0
    · subst h0
      rw [if_pos rfl] at hR
      rw [if_neg (by decide)]
      exact wpAny_pure (hR _ _ ha S)
    · rw [if_neg h0] at hR
      rw [if_pos (by show pos > 0; omega)]
      obtain ⟨u, hu, hRu⟩ := ha.getD (b := 0) hpl
      obtain ⟨v, hv, hRv⟩ := ha.getD (b := 0) (show (pos - 1) / 2 < hs.length by omega)
      refine wpAny_bind (at_ok (o := vs.toArray[pos]?) (v := u) (by simpa using hu) ?_)
      refine wpAny_bind (at_ok (o := vs.toArray[(pos - 1) / 2]?) (v := v) (by simpa using hv) ?_)
      show wpAny _ _ (_ >>= _) _ _ _
      refine wpAny_bind (wpAny_bind (wpAny_holding (wpAny_bind (hcmp _ _ _ _ _ _ S hRu hRv _ _ _ _ (wpAny_truthy_bool ?_)))))
      refine wpAny_bind (wpAny_bind (wpAny_seqItems ho rfl (wpAny_pure ?_)))
      dsimp only
      rw [if_neg (by simp)]
      refine wpAny_pure ?_
      by_cases hl : lt (hs.getD pos 0) (hs.getD ((pos - 1) / 2) 0) = true
      · rw [if_pos hl] at hR ⊢
        refine wpAny_bind (wpAny_bind (wpAny_bind (wpAny_seqItems ho rfl (wpAny_pure ?_))))
        refine wpAny_bind (at_ok (o := vs.toArray[(pos - 1) / 2]?) (v := v) (by simpa using hv) ?_)
        refine wpAny_bind (at_ok (o := vs.toArray[pos]?) (v := u) (by simpa using hu) ?_)
        refine wpAny_updateSeq ho rfl ?_ (by rw [List.size_toArray, sizeLine_eq, ha.length]; omega) (by rw [Array.size_setIfInBounds, Array.size_setIfInBounds, List.size_toArray, sizeLine_eq, ha.length]; omega)
        refine wpAny_pure ⟨plainId_quiet plain_sift _, codeAny_builtin entry_sift ?_⟩
        rw [Around.under_plainId plain_sift _]
        exact ih ((pos - 1) / 2) _ _ _ (by omega) (by rw [hSwap_length]; omega) (by rw [hSwap_length]; exact hz) (ha.hSwap hRv hRu) (swap_st S ho) hR
      · rw [if_neg hl] at hR ⊢
        exact wpAny_pure (hR _ _ ha S)

theorem hUp_length (lt : Nat → Nat → Bool) : ∀ (f : Nat) (hs : List Nat) (pos : Nat), (hUp lt f hs pos).length = hs.length
  | 0, hs, pos => rfl
  | f + 1, hs, pos => by
    rw [hUp]; split
    · rfl
    · split
      · rw [hUp_length, hSwap_length]
      · rfl
theorem hChild_lt {lt : Nat → Nat → Bool} {hs : List Nat} {pos : Nat} (h : pos < hs.length / 2) : pos < hChild lt hs pos ∧ hChild lt hs pos < hs.length := by
  unfold hChild; split <;> omega
theorem hDown_length (lt : Nat → Nat → Bool) : ∀ (f : Nat) (hs : List Nat) (pos : Nat), (hDown lt f hs pos).length = hs.length
  | 0, hs, pos => rfl
  | f + 1, hs, pos => by
    rw [hDown]; split
    · rw [hDown_length, hSwap_length]
    · rw [hUp_length]

theorem sift_down {R : Value → Nat → Prop} {lt : Nat → Nat → Bool} {D : Addr} {result : Value} {Rr : Result → Shared → Prop}
    (hcmp : ∀ s' vs' u v i j, St X g s' ((D, ListIs vs') :: l) → R u i → R v j → LtAt A.in1 s' u v (lt i j))
    (f : Nat) : ∀ (pos : Nat) (vs : List Value) (hs : List Nat) (s : Shared), hs.length < f + pos → pos < hs.length → hs.length ≤ 1000 → All2 R vs hs → St X g s ((D, ListIs vs) :: l) →
    (∀ vs' s', All2 R vs' (hDown lt f hs pos) → St X g s' ((D, ListIs vs') :: l) → Rr (.ok (.ret result)) s') →
    wpAny X.M A.in1 (Builtin.«_heapq.heapify.sift» ⟨[.ref D, .bool false, .bool true, rawInt pos, rawInt 0, result, rawInt (-1)], []⟩) (fun fin s' => match fin with | .done f => Rr (.ok f) s' | .again c' => c'.quiet = true ∧ codeAny X.M A c' Rr s') (fun e s' => Rr (.error e) s') s := by
  induction f with
  | zero => intro pos vs hs s h; omega
  | succ f ih =>
    intro pos vs hs s hpf hpl hz ha S hR
    obtain ⟨n, ho⟩ := S.plainList (.head _)
    have hlen : vs.toArray.size = hs.length := by rw [List.size_toArray, ha.length]
    unfold Builtin.«_heapq.heapify.sift»
    dsimp only [rawInt]
    refine wpAny_bind ?_
    refine wpAny_bind (wpAny_seqItems ho rfl ?_)
    refine wpAny_pure ?_
    show wpAny _ _ (if (pos : Int).toNat < vs.toArray.size / 2 then _ else _) _ _ _
    simp only [Int.toNat_natCast]
    rw [hDown] at hR
    by_cases h0 : pos < hs.length / 2
    · rw [if_pos h0] at hR
      rw [if_pos (by rw [hlen]; exact h0)]
      have hc := hChild_lt (lt := lt) h0
      obtain ⟨u, hu, hRu⟩ := ha.getD (b := 0) hpl
      have fin : ∀ c, c = hChild lt hs pos → ∀ {m : Sem Unit} {k : Unit → Sem PySem.Fin}, (∀ {x : Value} {Q : Unit → Shared → Prop}, vs[c]? = some x → (St X g { s with heap := s.heap.update D (Obj.mapSeq fun xs => (xs.setIfInBounds c u).setIfInBounds pos x) } ((D, ListIs ((vs.set c u).set pos x)) :: l) → Q () { s with heap := s.heap.update D (Obj.mapSeq fun xs => (xs.setIfInBounds c u).setIfInBounds pos x) }) → wpAny X.M A.in1 m Q (fun e s' => Rr (.error e) s') s) →
          (k () = pure (.again (.builtin "_heapq.heapify.sift" ⟨[.ref D, .bool false, .bool true, rawInt (c : Nat), rawInt (0 : Nat), result, rawInt (-1)], []⟩))) →
          wpAny X.M A.in1 (m >>= k) (fun fin s' => match fin with | .done f => Rr (.ok f) s' | .again c' => c'.quiet = true ∧ codeAny X.M A c' Rr s') (fun e s' => Rr (.error e) s') s := by
        rintro c rfl m k hm hk
        obtain ⟨x, hx, hRx⟩ := ha.getD (b := 0) hc.2
        refine wpAny_bind (hm hx fun S' => ?_)
        rw [hk]
        refine wpAny_pure ⟨plainId_quiet plain_sift _, codeAny_builtin entry_sift ?_⟩
        rw [Around.under_plainId plain_sift _]
        exact ih _ _ _ _ (by rw [hSwap_length]; omega) (by rw [hSwap_length]; omega) (by rw [hSwap_length]; exact hz) (ha.hSwap hRx hRu) S' hR
      by_cases h2 : 2 * pos + 1 + 1 < hs.length
      · rw [if_pos (by rw [hlen]; exact h2)]
        obtain ⟨x, hx, hRx⟩ := ha.getD (b := 0) (show 2 * pos + 1 < hs.length by omega)
        obtain ⟨y, hy, hRy⟩ := ha.getD (b := 0) h2
        refine wpAny_bind (at_ok (o := vs.toArray[2 * pos + 1]?) (v := x) (by simpa using hx) ?_)
        refine wpAny_bind (at_ok (o := vs.toArray[2 * pos + 1 + 1]?) (v := y) (by simpa using hy) ?_)
        show wpAny _ _ (_ >>= _) _ _ _
        refine wpAny_bind (wpAny_bind (wpAny_holding (wpAny_bind (hcmp _ _ _ _ _ _ S hRx hRy _ _ _ _ (wpAny_truthy_bool ?_)))))
        refine wpAny_bind (wpAny_bind (wpAny_seqItems ho rfl (wpAny_pure ?_)))
        dsimp only
        rw [if_neg (by simp)]
        refine wpAny_pure ?_
        cases hl : lt (hs.getD (2 * pos + 1) 0) (hs.getD (2 * pos + 1 + 1) 0) with
        | false =>
          rw [if_pos (by rfl)]
          exact fin (2 * pos + 1 + 1) (by unfold hChild; rw [if_pos ⟨h2, hl⟩]) (fun hx hQ => by
            refine wpAny_bind (wpAny_bind (wpAny_seqItems ho rfl (wpAny_pure ?_)))
            refine wpAny_bind (at_ok (o := vs.toArray[2 * pos + 1 + 1]?) (by simpa using hx) ?_)
            refine wpAny_bind (at_ok (o := vs.toArray[pos]?) (v := u) (by simpa using hu) ?_)
            exact wpAny_updateSeq ho rfl (hQ (swap_st S ho)) (by rw [hlen, sizeLine_eq]; omega) (by rw [Array.size_setIfInBounds, Array.size_setIfInBounds, hlen, sizeLine_eq]; omega)) rfl
        | true =>
          rw [if_neg (by simp)]
          exact fin (2 * pos + 1) (by unfold hChild; rw [if_neg (by rw [hl]; simp)]) (fun hx hQ => by
            refine wpAny_bind (wpAny_bind (wpAny_seqItems ho rfl (wpAny_pure ?_)))
            refine wpAny_bind (at_ok (o := vs.toArray[2 * pos + 1]?) (by simpa using hx) ?_)
            refine wpAny_bind (at_ok (o := vs.toArray[pos]?) (v := u) (by simpa using hu) ?_)
            exact wpAny_updateSeq ho rfl (hQ (swap_st S ho)) (by rw [hlen, sizeLine_eq]; omega) (by rw [Array.size_setIfInBounds, Array.size_setIfInBounds, hlen, sizeLine_eq]; omega)) rfl
      · rw [if_neg (by rw [hlen]; exact h2)]
        exact fin (2 * pos + 1) (by unfold hChild; rw [if_neg (fun h => h2 h.1)]) (fun hx hQ => by
            refine wpAny_bind (wpAny_bind (wpAny_seqItems ho rfl (wpAny_pure ?_)))
            refine wpAny_bind (at_ok (o := vs.toArray[2 * pos + 1]?) (by simpa using hx) ?_)
            refine wpAny_bind (at_ok (o := vs.toArray[pos]?) (v := u) (by simpa using hu) ?_)
            exact wpAny_updateSeq ho rfl (hQ (swap_st S ho)) (by rw [hlen, sizeLine_eq]; omega) (by rw [Array.size_setIfInBounds, Array.size_setIfInBounds, hlen, sizeLine_eq]; omega)) rfl
    · rw [if_neg h0] at hR
      rw [if_neg (by rw [hlen]; exact h0)]
      refine wpAny_pure ⟨plainId_quiet plain_sift _, codeAny_builtin entry_sift ?_⟩
      rw [Around.under_plainId plain_sift _]
      exact sift_up hcmp (pos + 1) pos vs hs s (by omega) hpl hz ha S hR

def hPush (lt : Nat → Nat → Bool) (hs : List Nat) (x : Nat) : List Nat := hUp lt (hs.length + 1) (hs ++ [x]) hs.length
theorem w_heappush {R : Value → Nat → Prop} {lt : Nat → Nat → Bool} {D : Addr} {vs : List Value} {hs : List Nat} {v : Value} {k : Nat} {Q : Value → Shared → Prop}
    (S : St X g s ((D, ListIs vs) :: l)) (ha : All2 R vs hs) (hv : R v k) (hz : hs.length < 1000)
    (hcmp : ∀ s' vs' u v i j, St X g s' ((D, ListIs vs') :: l) → R u i → R v j → LtAt A.in1 s' u v (lt i j))
    (h : ∀ vs' s', All2 R vs' (hPush lt hs k) → St X g s' ((D, ListIs vs') :: l) → Q .none s') : wpAny X.M A (call (.builtin "_heapq.heappush") [.ref D, v]) Q E s := by
  obtain ⟨n, ho⟩ := S.plainList (.head _)
  refine wpAny_call (codeAny_call_builtin plain_heappush entry_heappush ?_)
  have main : wpAny X.M A.in1 (Builtin.«_heapq.heappush» ⟨[.ref D, v], []⟩) (fun fin s' => match fin with | .done f => wants Q E (.ok f) s' | .again c' => c'.quiet = true ∧ codeAny X.M A c' (wants Q E) s') (fun e s' => wants Q E (.error e) s') s := by
    unfold Builtin.«_heapq.heappush»
    refine wpAny_bind ?_
    refine wpAny_bind (wpAny_pure ?_)
    refine wpAny_bind ?_
    refine wpAny_pure ?_
    dsimp only
    refine wpAny_bind ?_
    refine wpAny_bind (wpAny_isInstance ⟨_, ho, rfl⟩ sub_list_self ?_)
    show wpAny _ _ (if true = true then _ else _) _ _ _
    rw [if_pos rfl]
    refine wpAny_pure ?_
    refine wpAny_pure ?_
    dsimp only
    refine wpAny_bind (wpAny_updateSeq ho rfl ?_ (by rw [List.size_toArray, sizeLine_eq, ha.length]; omega) (by rw [Array.size_push, List.size_toArray, sizeLine_eq, ha.length]; omega))
    have S2 : St X g { s with heap := s.heap.update D (Obj.mapSeq fun x => x.push v) } ((D, ListIs (vs ++ [v])) :: l) := by
      refine S.upd (s' := { s with heap := s.heap.update D _ }) .here (fun b o hb e => (Heap.SameBut.update ..).extBut b o hb e) (Heap.get?_update_self _ ho rfl) ?_
      simp [ListIs, Obj.mapSeq]
    obtain ⟨n2, ho2⟩ := S2.plainList (.head _)
    refine wpAny_bind (wpAny_bind (wpAny_seqItems ho2 rfl (wpAny_pure ?_)))
    have e1 : (vs ++ [v]).toArray.size - 1 = hs.length := by simp [ha.length]
    rw [e1]
    refine wpAny_pure ⟨plainId_quiet plain_sift _, codeAny_builtin entry_sift ?_⟩
    rw [Around.under_plainId plain_sift _]
    exact sift_up hcmp (hs.length + 1) hs.length _ _ _ (by omega) (by simp) (by simp; omega) (ha.append (.cons hv .nil)) S2 h
  simp only [checkBuiltinCall, kind_heappush]
  have ok := args_heappush (.ref D) v
  cases hsig : Manifest.signature? "_heapq.heappush" with
  | none => exact wpAny_pure main
  | some sig =>
    simp only [argsOk, hsig] at ok
    have h2 : Bind.checkArgs "_heapq.heappush" sig ⟨[.ref D, v], []⟩ = pure () := ok
    show wpAny _ _ (Bind.checkArgs "_heapq.heappush" sig ⟨[.ref D, v], []⟩) _ _ s
    rw [h2]; exact wpAny_pure main
def hPop (lt : Nat → Nat → Bool) (hs : List Nat) : Nat × List Nat := if hs.length = 1 then (hs.getD 0 0, []) else (hs.getD 0 0, hDown lt (hs.length + 1) (hs.dropLast.set 0 (hs.getD (hs.length - 1) 0)) 0)
theorem w_heappop {R : Value → Nat → Prop} {lt : Nat → Nat → Bool} {D : Addr} {vs : List Value} {hs : List Nat} {Q : Value → Shared → Prop}
    (S : St X g s ((D, ListIs vs) :: l)) (ha : All2 R vs hs) (h0 : 0 < hs.length) (hz : hs.length < 1000)
    (hcmp : ∀ s' vs' u v i j, St X g s' ((D, ListIs vs') :: l) → R u i → R v j → LtAt A.in1 s' u v (lt i j))
    (h : ∀ v vs' s', R v (hPop lt hs).1 → All2 R vs' (hPop lt hs).2 → St X g s' ((D, ListIs vs') :: l) → Q v s') : wpAny X.M A (call (.builtin "_heapq.heappop") [.ref D]) Q E s := by
  obtain ⟨n, ho⟩ := S.plainList (.head _)
  refine wpAny_call (codeAny_call_builtin plain_heappop entry_heappop ?_)
  have main : wpAny X.M A.in1 (Builtin.«_heapq.heappop» ⟨[.ref D], []⟩) (fun fin s' => match fin with | .done f => wants Q E (.ok f) s' | .again c' => c'.quiet = true ∧ codeAny X.M A c' (wants Q E) s') (fun e s' => wants Q E (.error e) s') s := by
    unfold Builtin.«_heapq.heappop»
    show wpAny _ _ (_ >>= _) _ _ _
    refine wpAny_bind ?_
    refine wpAny_bind (m := oneArg _ _) (wpAny_pure ?_)
    refine wpAny_bind ?_
    show wpAny _ _ (_ >>= _) _ _ _
    refine wpAny_bind (wpAny_isInstance ⟨_, ho, rfl⟩ sub_list_self ?_)
    show wpAny _ _ (if true = true then _ else _) _ _ _
    rw [if_pos rfl]
    refine wpAny_pure ?_
    refine wpAny_pure ?_
    dsimp only
    refine wpAny_bind (wpAny_bind (wpAny_seqItems ho rfl (wpAny_pure ?_)))
    obtain ⟨last, hlast, hRl⟩ := ha.getD (b := 0) (show hs.length - 1 < hs.length by omega)
    obtain ⟨first, hfirst, hRf⟩ := ha.getD (b := 0) h0
    have hb : vs.toArray.back? = some last := by
      rw [Array.back?_eq_getElem?, List.size_toArray, ha.length]; simpa using hlast
    rw [hb]
    dsimp only
    refine wpAny_bind (wpAny_updateSeq ho rfl ?_ (by rw [List.size_toArray, sizeLine_eq, ha.length]; omega) (by rw [Array.size_pop, List.size_toArray, sizeLine_eq, ha.length]; omega))
    have S2 : St X g { s with heap := s.heap.update D (Obj.mapSeq fun x => x.pop) } ((D, ListIs vs.dropLast) :: l) := by
      refine S.upd (s' := { s with heap := s.heap.update D _ }) .here (fun b o hb e => (Heap.SameBut.update ..).extBut b o hb e) (Heap.get?_update_self _ ho rfl) ?_
      simp [ListIs, Obj.mapSeq]
    obtain ⟨n2, ho2⟩ := S2.plainList (.head _)
    have hlen : vs.toArray.size = hs.length := by rw [List.size_toArray, ha.length]
    unfold hPop at h
    by_cases h1 : hs.length = 1
    · rw [if_pos h1] at h
      rw [if_pos (by rw [hlen, h1]; rfl)]
      have e0 : hs.length - 1 = 0 := by omega
      rw [e0] at hRl
      refine wpAny_pure (h _ _ _ hRl ?_ S2)
      have := ha.length
      match vs, this.trans h1 with
      | [_], _ => exact .nil
    · rw [if_neg h1] at h
      rw [if_neg (by rw [hlen]; simpa using h1)]
      refine wpAny_bind (at_ok (o := vs.toArray[0]?) (v := first) (by simpa using hfirst) ?_)
      refine wpAny_bind (wpAny_updateSeq ho2 rfl ?_ (by rw [List.size_toArray, List.length_dropLast, sizeLine_eq, ha.length]; omega) (by rw [Array.size_setIfInBounds, List.size_toArray, List.length_dropLast, sizeLine_eq, ha.length]; omega))
      have S3 := S2.upd (s' := { s with heap := (s.heap.update D (Obj.mapSeq fun x => x.pop)).update D (Obj.mapSeq fun x => x.setIfInBounds 0 last) }) (P' := ListIs (vs.dropLast.set 0 last)) .here (fun b o hb e => (Heap.SameBut.update ..).extBut b o hb e) (Heap.get?_update_self _ ho2 rfl) (by simp [ListIs, Obj.mapSeq])
      refine wpAny_pure ⟨plainId_quiet plain_sift _, codeAny_builtin entry_sift ?_⟩
      rw [Around.under_plainId plain_sift _]
      exact sift_down hcmp (hs.length + 1) 0 _ _ _ (by simp; omega) (by simp; omega) (by simp; omega) (ha.dropLast.set hRl 0) S3 fun vs' s' => h first vs' s' hRf
  simp only [checkBuiltinCall, kind_heappop]
  have ok := args_heappop (.ref D)
  cases hsig : Manifest.signature? "_heapq.heappop" with
  | none => exact wpAny_pure main
  | some sig =>
    simp only [argsOk, hsig] at ok
    have h2 : Bind.checkArgs "_heapq.heappop" sig ⟨[.ref D], []⟩ = pure () := ok
    show wpAny _ _ (Bind.checkArgs "_heapq.heappop" sig ⟨[.ref D], []⟩) _ _ s
    rw [h2]; exact wpAny_pure main
end
end

section
def h0 : Heap := { objs := #[] }
def news0 (h : Heap) : List (Addr × Obj) := (List.range h.objs.size).filterMap fun b => (h.get? b).map fun o => (b, o)
def newsL (h : Heap) (l : List Ent) : List (Addr × Obj) := l.filterMap fun p => (h.get? p.1).map fun o => (p.1, o)
theorem mem_news0 {h : Heap} {b : Addr} {o : Obj} : (b, o) ∈ news0 h ↔ h.get? b = some o := by
  unfold news0
  rw [List.mem_filterMap]
  constructor
  · rintro ⟨c, _, hc⟩
    obtain ⟨o', h1, h2⟩ := Option.map_eq_some_iff.mp hc
    cases h2; exact h1
  · intro e
    exact ⟨b, List.mem_range.mpr (Heap.lt_size e), by rw [e]; rfl⟩
theorem mem_newsL {h : Heap} {l : List Ent} {b : Addr} {o : Obj} : (b, o) ∈ newsL h l ↔ (∃ p ∈ l, p.1 = b) ∧ h.get? b = some o := by
  unfold newsL
  rw [List.mem_filterMap]
  constructor
  · rintro ⟨c, hm, hc⟩
    obtain ⟨o', h1, h2⟩ := Option.map_eq_some_iff.mp hc
    cases h2; exact ⟨⟨c, hm, rfl⟩, h1⟩
  · rintro ⟨⟨p, hp, rfl⟩, e⟩
    exact ⟨p, hp, by rw [e]; rfl⟩
theorem newsL_append (h : Heap) (a b : List Ent) : newsL h (a ++ b) = newsL h a ++ newsL h b := by simp [newsL]
theorem h0_none (b : Addr) : h0.get? b = none := by simp [h0, Heap.get?]
section
variable {X : Cx} {g : Array GenState} {s : Shared} {l l' : List Ent} {A : Around} {E : Value → Shared → Prop} {env : Env} {L : Addr} {b : List (Str × Value)}
theorem St.fr (S : St X g s ((L, NsHas b) :: l)) : ∃ m, Fr h0 L s.heap m ∧ ∀ x v, b.lookup x = some v → m x = some v := by
  obtain ⟨m, hn, hm⟩ := S.ns (.head _)
  exact ⟨m, ⟨hn, fun b o e => (by rw [h0_none] at e; cases e), Nat.zero_le _⟩, hm⟩
theorem St.neL (S : St X g s ((L, NsHas b) :: l)) {p : Ent} (hp : p ∈ l) : p.1 ≠ L := by
  have nd := S.nd
  rw [List.map_cons, List.nodup_cons] at nd
  exact fun e => nd.1 (List.mem_map.mpr ⟨p, hp, e⟩)
theorem St.news (S : St X g s ((L, NsHas b) :: l)) : News h0 L s.heap (newsL s.heap l ++ news0 X.hT) := by
  rintro ⟨c, o⟩ hp
  rcases List.mem_append.mp hp with hp | hp
  · obtain ⟨⟨p, hm, rfl⟩, e⟩ := mem_newsL.mp hp
    exact ⟨e, S.neL hm, h0_none _⟩
  · have e := mem_news0.mp hp
    refine ⟨S.keep _ _ e, fun q => ?_, h0_none _⟩
    have := S.new (L, NsHas b) (.head _)
    simp only at q
    rw [q, this] at e; cases e
theorem St.back (S : St X g s ((L, NsHas b) :: l)) {m : Str → Option Value} {h' : Heap} {news' : List (Addr × Obj)} (t : Nat) (hb : ∀ x v, b.lookup x = some v → m x = some v) (F' : Fr h0 L h' m) (N' : News h0 L h' news')
    (hk : ∀ p ∈ news0 X.hT, p ∈ news') (hl : ∀ p ∈ l', ∃ o, (p.1, o) ∈ news' ∧ p.2 o) (hnew : ∀ p ∈ l', X.hT.get? p.1 = none) (hnd : (l'.map (·.1)).Nodup) : St X g { s with heap := h', toks := t } ((L, NsHas b) :: l') where
  keep c o e := (N' (c, o) (hk _ (mem_news0.mpr e))).1
  get p hp := by
    rcases List.mem_cons.mp hp with rfl | hp
    · exact NsHas.of_ns F'.ns hb
    · obtain ⟨o, h1, h2⟩ := hl p hp; exact ⟨o, (N' _ h1).1, h2⟩
  new p hp := by
    rcases List.mem_cons.mp hp with rfl | hp
    · exact S.new (L, NsHas b) (.head _)
    · exact hnew p hp
  nd := by
    rw [List.map_cons, List.nodup_cons]
    refine ⟨fun h => ?_, hnd⟩
    obtain ⟨p, hp, e⟩ := List.mem_map.mp h
    obtain ⟨o, h1, _⟩ := hl p hp
    exact (N' _ h1).2.1 e
  os := S.os
  gens := S.gens
  dr := S.dr
/-- a fresh one -/
theorem St.back1 (S : St X g s ((L, NsHas b) :: l)) {m : Str → Option Value} {h' : Heap} {D : Addr} {oD : Obj} {P : Obj → Prop} (t : Nat) (hb : ∀ x v, b.lookup x = some v → m x = some v) (F' : Fr h0 L h' m) (N' : News h0 L h' ((D, oD) :: (newsL s.heap l ++ news0 X.hT)))
    (hD : ∀ q ∈ newsL s.heap l ++ news0 X.hT, q.1 < D) (hP : P oD) : St X g { s with heap := h', toks := t } ((L, NsHas b) :: (D, P) :: l) := by
  have nd := S.nd
  rw [List.map_cons, List.nodup_cons] at nd
  have lt : ∀ p ∈ l, p.1 < D := fun p hp => by
    obtain ⟨o, h1, _⟩ := S.get p (.tail _ hp)
    exact hD (p.1, o) (List.mem_append_left _ (mem_newsL.mpr ⟨⟨p, hp, rfl⟩, h1⟩))
  refine S.back t hb F' N' (fun p hp => .tail _ (List.mem_append_right _ hp)) (fun p hp => ?_) (fun p hp => ?_) ?_
  · rcases List.mem_cons.mp hp with rfl | hp
    · exact ⟨oD, .head _, hP⟩
    · obtain ⟨o, h1, h2⟩ := S.get p (.tail _ hp)
      exact ⟨o, .tail _ (List.mem_append_left _ (mem_newsL.mpr ⟨⟨p, hp, rfl⟩, h1⟩)), h2⟩
  · rcases List.mem_cons.mp hp with rfl | hp
    · cases q : X.hT.get? D with
      | none => rfl
      | some o => exact absurd (hD (D, o) (List.mem_append_right _ (mem_news0.mpr q))) (Nat.lt_irrefl _)
    · exact S.new p (.tail _ hp)
  · rw [List.map_cons, List.nodup_cons]
    refine ⟨fun h => ?_, nd.2⟩
    obtain ⟨p, hp, e⟩ := List.mem_map.mp h
    have := lt p hp
    rw [e] at this; exact Nat.lt_irrefl _ this
theorem newsL_upd {a : Addr} {P P' : Obj → Prop} (U : UpdE a P P' l l') (S : St X g s ((L, NsHas b) :: l)) : ∃ pre post o, newsL s.heap l = pre ++ (a, o) :: post ∧ P o ∧ s.heap.get? a = some o ∧ (∀ p ∈ pre, p.1 ≠ a) ∧ (∀ p ∈ post ++ news0 X.hT, p.1 ≠ a) ∧
    ∀ {m : Str → Option Value} {h' : Heap} {o' : Obj} (t : Nat), (∀ x v, b.lookup x = some v → m x = some v) → Fr h0 L h' m → News h0 L h' (pre ++ (a, o') :: (post ++ news0 X.hT)) → P' o' → St X g { s with heap := h', toks := t } ((L, NsHas b) :: l') := by
  obtain ⟨x, y, rfl, rfl⟩ := U.split
  obtain ⟨o, h1, h2⟩ := S.get (a, P) (.tail _ (List.mem_append_right _ (.head _)))
  have nd := S.nd
  rw [List.map_cons, List.nodup_cons] at nd
  have nd2 := nd.2
  have hne : ∀ p, p ∈ x ∨ p ∈ y → p.1 ≠ a := by
    intro p hp e
    simp only [List.map_append, List.map_cons, List.nodup_append, List.nodup_cons] at nd2
    rcases hp with hp | hp
    · exact nd2.2.2 p.1 (List.mem_map_of_mem hp) a (by simp) e
    · exact nd2.2.1.1 (e ▸ List.mem_map_of_mem hp)
  refine ⟨newsL s.heap x, newsL s.heap y, o, ?_, h2, h1, ?_, ?_, ?_⟩
  · rw [newsL_append]
    congr 1
    simp [newsL, show s.heap.get? a = some o from h1]
  · rintro ⟨c, o'⟩ hp e
    obtain ⟨⟨p, hm, rfl⟩, _⟩ := mem_newsL.mp hp
    exact hne p (.inl hm) e
  · rintro ⟨c, o'⟩ hp e
    rcases List.mem_append.mp hp with hp | hp
    · obtain ⟨⟨p, hm, rfl⟩, _⟩ := mem_newsL.mp hp
      exact hne p (.inr hm) e
    · have e2 := mem_news0.mp hp
      simp only at e
      have := S.new (a, P) (.tail _ (List.mem_append_right _ (.head _)))
      rw [e, this] at e2; cases e2
  · intro m h' o' t hb F' N' hP'
    refine S.back t hb F' N' (fun p hp => List.mem_append_right _ (.tail _ (List.mem_append_right _ hp))) (fun p hp => ?_) (fun p hp => ?_) ?_
    · rcases List.mem_append.mp hp with hp | hp
      · obtain ⟨o, h1, h2⟩ := S.get p (.tail _ (List.mem_append_left _ hp))
        exact ⟨o, List.mem_append_left _ (mem_newsL.mpr ⟨⟨p, hp, rfl⟩, h1⟩), h2⟩
      · rcases List.mem_cons.mp hp with rfl | hp
        · exact ⟨o', List.mem_append_right _ (.head _), hP'⟩
        · obtain ⟨o, h1, h2⟩ := S.get p (.tail _ (List.mem_append_right _ (.tail _ hp)))
          exact ⟨o, List.mem_append_right _ (.tail _ (List.mem_append_left _ (mem_newsL.mpr ⟨⟨p, hp, rfl⟩, h1⟩))), h2⟩
    · rcases List.mem_append.mp hp with hp | hp
      · exact S.new p (.tail _ (List.mem_append_left _ hp))
      · rcases List.mem_cons.mp hp with rfl | hp
        · exact S.new (a, P) (.tail _ (List.mem_append_right _ (.head _)))
        · exact S.new p (.tail _ (List.mem_append_right _ (.tail _ hp)))
    · have : (x ++ (a, P') :: y).map (·.1) = (x ++ (a, P) :: y).map (·.1) := by simp
      rw [this]; exact nd2
end
end

section
theorem primeObj : (fun (_ : OpenLaw) (_ : Params → Frag) => True) PySem.Challenge.rw_ft5005_01 hd.heap_39 := by k_fill; trivial
theorem wl_get_pq (P : Params) : plainGet (hd.heap_39 P) 80 (Str.ofString "pq") = true := by k_is
theorem wl_has (P : Params) : hasDictIn (hd.heap_39 P) 80 = true := by k_is
theorem wl_find_pq (P : Params) : findIn (hd.heap_39 P) (.ref 80) (Str.ofString "pq") = some none := by k_is
theorem wl_get_add (P : Params) : plainGet (hd.heap_39 P) 80 (Str.ofString "add") = true := by k_is
theorem wl_find_add (P : Params) : findIn (hd.heap_39 P) (.ref 80) (Str.ofString "add") = some (some (.ref 63)) := by k_is
theorem wl_get_get (P : Params) : plainGet (hd.heap_39 P) 80 (Str.ofString "get") = true := by k_is
theorem wl_find_get (P : Params) : findIn (hd.heap_39 P) (.ref 80) (Str.ofString "get") = some (some (.ref 70)) := by k_is
theorem wl_get_iter (P : Params) : plainGet (hd.heap_39 P) 80 (Str.ofString "iter") = true := by k_is
theorem wl_find_iter (P : Params) : findIn (hd.heap_39 P) (.ref 80) (Str.ofString "iter") = some (some (.ref 77)) := by k_is
theorem wl_fn_add (P : Params) : isFn (hd.heap_39 P) (.ref 63) = true := by k_is
theorem wl_fn_get (P : Params) : isFn (hd.heap_39 P) (.ref 70) = true := by k_is
theorem wl_fn_iter (P : Params) : isFn (hd.heap_39 P) (.ref 77) = true := by k_is
theorem wl_makes (P : Params) : makesIn (hd.heap_39 P) 80 = true := by k_is
theorem wl_find_init (P : Params) : findIn (hd.heap_39 P) (.ref 80) (Str.ofString "__init__") = some (some (.ref 56)) := by k_is
theorem wl_type_init (P : Params) : typeIn (hd.heap_39 P) (.ref 56) = some (.type "function") := by k_is
theorem wl_setattr (P : Params) : findIn (hd.heap_39 P) (.ref 80) (Str.ofString "__setattr__") = some (some (.builtin "object.__setattr__")) := by k_is
theorem wl_plain (P : Params) : plainOver (hd.heap_39 P) 80 = true := by k_is
theorem wl_taker (P : Params) : takerIn (hd.heap_39 P) 80 (Str.ofString "pq") = some none := by k_is
section
variable {X : Cx} {g : Array GenState} {s : Shared} {l l' : List Ent} {A : Around} {E : Value → Shared → Prop} {env : Env}
theorem w_unpack2 {p : Addr} {u v : Value} {x y : Str} {px py pos : Pos} {k : Nat} {b : List (Str × Value)} {Q : Unit → Shared → Prop} (S : St X g s ((env.locals, NsHas b) :: l)) (hh : A.handled = none) (ht : s.heap.IsTuple p #[u, v])
    (h : ∀ s', St X g s' ((env.locals, NsHas ((y, v) :: (x, u) :: b)) :: l) → Q () s')
    (hx : env.kindOf x = some .local := by rfl) (hy : env.kindOf y = some .local := by rfl) (hp : (env.scope.kind == .class || (env.scope.kind == .module && env.locals != env.globals)) = false := by rfl) :
    wpAny X.M A (assign (.Tuple [.Name x px, .Name y py] k pos) env (.ref p)) Q E s := by
  refine wpAny_assign_Tuple hh ht rfl rfl fun h' he => ?_
  have S1 : St X g { s with heap := h' } ((env.locals, NsHas b) :: l) := S.all (s' := { s with heap := h' }) fun c o e => he c o (Nat.ne_of_lt (Heap.lt_size e)) e
  show wpAny _ _ (do holding [v] (assign (.Name x px) env u); do holding [] (assign (.Name y py) env v); pure ()) _ _ _
  refine wpAny_bind (wpAny_holding (wpAny_assign_Name (w_store S1 (fun s2 S2 => ?_) hx hp)))
  refine wpAny_bind (wpAny_holding (wpAny_assign_Name (w_store S2 (fun s3 S3 => ?_) hy hp)))
  exact wpAny_pure (h _ S3)

def InstIs (C dx : Addr) (o : Obj) : Prop := o = instObj C dx
def AttrIs (D : Addr) (o : Obj) : Prop := ∃ hsh t n, o = dictOf [⟨hsh, .str (Str.ofString "pq") t, .ref D⟩] n
theorem St.inst (S : St X g s l) {W dx D : Addr} (h1 : (W, InstIs 80 dx) ∈ l) (h2 : (dx, AttrIs D) ∈ l) : ∃ hsh t n, InstAt s.heap W (instObj 80 dx) 80 (some (dictOf [⟨hsh, .str (Str.ofString "pq") t, .ref D⟩] n)) := by
  obtain ⟨o, ho, rfl⟩ := S.mem h1
  obtain ⟨o', ho', hsh, t, n, rfl⟩ := S.mem h2
  exact ⟨hsh, t, n, ho, rfl, rfl, ho'⟩
theorem St.K (S : St X g s l) : (hd.heap_39 X.w.params).In s.heap := fun a o e => S.keep _ _ (X.inK a o e)
theorem w_getPq {W dx D : Addr} {expr : Bool} {Q : Value → Shared → Prop} (S : St X g s l) (h1 : (W, InstIs 80 dx) ∈ l) (h2 : (dx, AttrIs D) ∈ l) (h : ∀ s', St X g s' l → Q (.ref D) s') : wpAny X.M A (getAttr (.ref W) (Str.ofString "pq") expr) Q E s := by
  obtain ⟨hsh, t, n, I⟩ := S.inst h1 h2
  exact get_value S.K I (plainGet_of (wl_get_pq _)).1 (findObj_own (wl_has _) (wl_find_pq _) rfl rfl) rfl (h _ (S.tok _))
theorem w_methodWL {W dx D f : Addr} {name : Str} {pl : Sem Bool} {Q : Value × List Value → Shared → Prop} (S : St X g s l) (h1 : (W, InstIs 80 dx) ∈ l) (h2 : (dx, AttrIs D) ∈ l) (hf : findIn (hd.heap_39 X.w.params) (.ref 80) name = some (some (.ref f)))
    (ht : isFn (hd.heap_39 X.w.params) (.ref f) = true) (hg : plainGet (hd.heap_39 X.w.params) 80 name = true) (hn : ∀ t, (Value.str (Str.ofString "pq") t).isStr name = false) (h : Q (.ref f, [.ref W]) s) : wpAny X.M A (getMethod (.ref W) name pl) Q E s := by
  obtain ⟨hsh, t, n, I⟩ := S.inst h1 h2
  refine method_fn S.K I (plainGet_of hg).1 (plainGet_of hg).2 hf (beq_iff_eq.mp ht) ?_ h
  show (lookIn name _).map _ = _
  rw [lookIn_dict]
  simp [getL, hn t, DictEntry.refKey]
end
theorem n_heappush (P : Params) : nsIn (hd.heap_39 P) mainGlobals (Str.ofString "heappush") = some (some (.builtin "_heapq.heappush")) := by k_is
theorem n_heappop (P : Params) : nsIn (hd.heap_39 P) mainGlobals (Str.ofString "heappop") = some (some (.builtin "_heapq.heappop")) := by k_is
end

end Mine

namespace Mine
local macro_rules | `(tactic| walk_at "m:mem") => `(tactic| first | exact List.Mem.head _ | assumption | (refine List.Mem.tail _ ?_; walk_at "m:mem") | (refine List.mem_append_right _ ?_; walk_at "m:mem"))
local macro_rules | `(tactic| walk_at "m:glob") => `(tactic| first | exact n_len _ | exact n_range _ | exact n_sorted _ | exact n_abs _ | exact n_list _ | exact n_enumerate _ | k_is)
local macro_rules | `(tactic| walk_at "m:boot") => `(tactic| first | exact PySem.boot_len | exact PyProof.Rows.boot_range | exact PyProof.Rows.boot_sorted | exact PyProof.Rows.boot_abs | exact PyProof.Rows.boot_list | exact PyProof.Rows.boot_enumerate)
local macro_rules | `(tactic| walk_at "m:name") => `(tactic| first
  | (refine' w_local (by assumption) ?mhb ?_; (case mhb => exact rfl))
  | (refine' w_cell (by assumption) ?mhc ?mhm ?_; (case mhc => exact rfl); (case mhm => walk_at "m:mem"))
  | (refine' w_builtin (by assumption) ?mhe ?mhv ?_; (case mhe => walk_at "m:glob"); (case mhv => walk_at "m:boot"))
  | (refine' w_global (by assumption) ?mhe ?_; (case mhe => walk_at "m:glob"))
  | (refine' w_free (by assumption) ?mhc ?mhm ?_; (case mhc => exact rfl); (case mhm => walk_at "m:mem")))
local macro_rules | `(tactic| walk_at "m:kp") => `(tactic| first | exact kp_builtin | exact kp_type | exact kp_K (by assumption) (by k_is))
local macro_rules | `(tactic| walk_at "m:step") => `(tactic| first
  | with_reducible refine wpAny_items_nil ?_
  | ((with_reducible refine gd0 ?_); refine wpAny_items_cons ?_)
  | with_reducible refine wpAny_execs_nil ?_
  | with_reducible refine wpAny_execs_cons ?_
  | ((with_reducible refine gd1 ?_); walk_at "m:name")
  | ((with_reducible refine w_int (by assumption) ?_); intro _ _ _)
  | with_reducible refine wpAny_BinOp ?_
  | with_reducible refine PyProof.Rows.Subscript_ ?_
  | ((with_reducible refine gd2 ?_); refine w_Call ?_)
  | ((with_reducible refine gd3 ?_); refine wpAny_Compare1 ?_)
  | ((with_reducible refine gd4 ?_); refine wpAny_isTrue_Compare1 ?_)
  | with_reducible refine wpAny_truthy_bool ?_
  | with_reducible refine PyProof.Rows.gt_int ?_
  | with_reducible refine PyProof.Rows.lt_int ?_
  | with_reducible refine PyProof.Rows.eq_int ?_
  | with_reducible refine PyProof.Rows.ne_int ?_
  | ((with_reducible refine w_add (by assumption) ?_); intro _ _ _)
  | ((with_reducible refine w_sub (by assumption) ?_); intro _ _ _)
  | ((with_reducible refine w_and (by assumption) ?_); intro _ _ _)
  | ((with_reducible refine w_or (by assumption) ?_); intro _ _ _)
  | ((with_reducible refine w_neg (by assumption) ?_); intro _ _ _)
  | with_reducible refine wpAny_If ?_
  | ((with_reducible refine gd5 ?_); refine wpAny_Assign_Name ?_)
  | with_reducible refine wpAny_Return_some ?_
  | with_reducible refine wpAny_IfExp ?_
  | with_reducible refine wpAny_UnaryOp ?_
  | with_reducible refine wpAny_isTrue_Not ?_
  | with_reducible refine wpAny_Constant_none ?_
  | with_reducible refine wpAny_Constant_bool ?_
  | with_reducible refine wpAny_Continue ?_
  | with_reducible refine wpAny_Break ?_
  | with_reducible refine wpAny_isTrue_BoolOp ?_
  | with_reducible refine wpAny_allTrue_And_cons ?_
  | with_reducible refine wpAny_allTrue_And_nil ?_
  | with_reducible refine wpAny_allTrue_Or_cons ?_
  | with_reducible refine wpAny_allTrue_Or_nil ?_
  | ((with_reducible refine gd6 ?_); (refine w_store (by assumption) ?_); intro _ _)
  | (with_reducible refine PyProof.Rows.Tuple_ ?_)
  | (with_reducible refine PyProof.Rows.List_ ?_)
  | (with_reducible refine' And.intro ?mkp ?_; (case mkp => walk_at "m:kp"))
  | (with_reducible refine w_range1 (by assumption) ?_; intro _ _ _)
  | (with_reducible refine w_range2 (by assumption) ?_; intro _ _ _)
  | dsimp only)
local macro_rules | `(tactic| walk_at "m:glob") => `(tactic| first | exact n_heappush _ | exact n_heappop _)
local macro_rules | `(tactic| walk_at "m:step") => `(tactic| first
  | ((with_reducible refine gd7 ?_); refine wpAny_Expr ?_)
  | ((with_reducible refine gd8 ?_); refine Attribute_any_ ?_)
  | ((with_reducible refine gd9 ?_); (refine w_getPq (by assumption) (by walk_at "m:mem") (by walk_at "m:mem") ?_); intro _ _)
  | ((with_reducible refine gd10 ?_); refine Assign_Tuple ?_)
  | ((with_reducible refine gd11 ?_); refine plainObj_wpAny_Assign_Attribute ?_))
local macro_rules | `(tactic| walk_at "m:step") => `(tactic| first
  | ((with_reducible refine gd12 ?_); refine wpAny_isTrue_value ?_)
  | ((with_reducible refine gd13 ?_); refine wpAny_isTrue_value ?_))

section
theorem primeWl : (fun (_ : OpenLaw) (_ : Params → Frag) => True) PySem.Challenge.rw_ft5005_01 hd.heap_39 := by k_fill; trivial
structure Dag where
  N : Nat
  row : Nat → List Int
  st : Nat → Int
  lt : Nat → Nat → Bool
def Dag.LtOk (D : Dag) : Prop := ∀ i j, i < D.N → j < D.N → pairLt (-(D.st i)) (D.row i) (-(D.st j)) (D.row j) = D.lt i j
def RowV (D : Dag) (l : List Ent) (v : Value) (k : Nat) : Prop := ∃ a, v = .ref a ∧ k < D.N ∧ (a, RowIs (D.row k)) ∈ l
def PairV (D : Dag) (f : Int → Int) (l : List Ent) (v : Value) (k : Nat) : Prop := ∃ p a, v = .ref p ∧ k < D.N ∧ (p, PairIs (f (D.st k)) a) ∈ l ∧ (a, RowIs (D.row k)) ∈ l
theorem RowV.mono {D : Dag} {l l' : List Ent} (h : l ⊆ l') {v : Value} {k : Nat} (x : RowV D l v k) : RowV D l' v k := let ⟨a, e, hk, m⟩ := x; ⟨a, e, hk, h m⟩
theorem PairV.mono {D : Dag} {f : Int → Int} {l l' : List Ent} (h : l ⊆ l') {v : Value} {k : Nat} (x : PairV D f l v k) : PairV D f l' v k := let ⟨p, a, e, hk, m, m'⟩ := x; ⟨p, a, e, hk, h m, h m'⟩
section
variable {X : Cx} {g : Array GenState} {s : Shared} {l l' : List Ent} {A : Around} {E : Value → Shared → Prop} {env : Env}
theorem perm3 {α : Type} {a b c : α} {l : List α} : (a :: b :: c :: l).Perm (c :: a :: b :: l) := ((List.Perm.swap c b l).cons a).trans (List.Perm.swap c a _)
theorem perm3' {α : Type} {a b c : α} {l : List α} : (c :: a :: b :: l).Perm (a :: b :: c :: l) := perm3.symm
theorem perm4 {α : Type} {a b c d : α} {l : List α} : (a :: b :: c :: d :: l).Perm (d :: a :: b :: c :: l) := (perm3.cons a).trans (List.Perm.swap d a _)
theorem perm4' {α : Type} {a b c d : α} {l : List α} : (d :: a :: b :: c :: l).Perm (a :: b :: c :: d :: l) := perm4.symm
theorem Dag.cmp {D : Dag} (hlt : D.LtOk) {l₀ : List Ent} (hu : A.units + 3 < cLine) {Dl : Addr} (hl : l₀ ⊆ l) : ∀ s' vs' u v i j, St X g s' ((Dl, ListIs vs') :: l) → PairV D (-·) l₀ u i → PairV D (-·) l₀ v j → LtAt A.in1 s' u v (D.lt i j) := by
  rintro s' vs' u v i j S ⟨p, a, rfl, hi, h1, h2⟩ ⟨q, b, rfl, hj, h3, h4⟩
  rw [← hlt i j hi hj]
  exact S.ltPair (show A.units + 1 + 1 < cLine by omega) (.tail _ (hl h1)) (.tail _ (hl h3)) (.tail _ (hl h2)) (.tail _ (hl h4))
theorem w_truthy2 {p : Addr} {u v : Value} {Q : Bool → Shared → Prop} (S : St X g s l) (ht : s.heap.IsTuple p #[u, v]) (h : ∀ s', St X g s' l → Q true s') : wpAny X.M A (truthy (.ref p)) Q E s :=
  truthy_tuple ht (by show ((2 : Nat) : Int) < 2 ^ 63; decide) (h _ (S.tok _))
theorem c_add {D : Dag} (hlt : D.LtOk) {l₀ : List Ent} (h₀ : l₀ ⊆ l) {W dx Dl p a : Addr} {vs : List Value} {hs : List Nat} {k : Nat} {Q : Value → Shared → Prop} (S : St X g s ((Dl, ListIs vs) :: l)) (R : Rm A 3) (hW : (W, InstIs 80 dx) ∈ l) (hdx : (dx, AttrIs Dl) ∈ l)
    (hp : (p, PairIs (D.st k) a) ∈ l) (ha : (a, RowIs (D.row k)) ∈ l₀) (hk : k < D.N) (hv : All2 (PairV D (-·) l₀) vs hs) (hz : hs.length < 1000)
    (h : ∀ vs' s' q, St X g s' ((Dl, ListIs vs') :: (q, PairIs (-(D.st k)) a) :: l) → All2 (PairV D (-·) ((q, PairIs (-(D.st k)) a) :: l₀)) vs' (hPush D.lt hs k) → Q .none s') : wpAny X.M A (call (.ref 63) [.ref W, .ref p] []) Q E s := by
  refine' w_def (binds := [(Str.ofString "self", .ref W), (Str.ofString "item", .ref p)]) S R ?ho ?hcd ?hbind ?h ?hloc ?hcell ?hco ?hgen ?hk
  case ho => k_is
  case hcd => k_is
  case hbind => exact BindsTo.of_eq rfl
  case hloc => rfl
  case hcell => decide
  case hco => rfl
  case hgen => rfl
  case hk => rfl
  intro L s1 S1
  repeat' walk_at "m:step"
  obtain ⟨t, ht⟩ := S1.isPair (.tail _ (.tail _ hp))
  refine w_unpack2 S1 R.hh ht fun s2 S2 => ?_
  repeat' walk_at "m:step"
  rename St _ _ _ _ => S3
  refine w_newTuple S3 (by rw [sizeLine_eq]; simp) fun q s4 S4 => ?_
  replace S4 := S4.wk (P' := PairIs (-(D.st k)) a) (.there .here) (fun o h => ⟨_, h⟩)
  clear S3
  repeat' walk_at "m:step"
  have hv' := hv.mono fun _ _ hx => hx.mono (List.subset_cons_self (q, PairIs (-(D.st k)) a) l₀)
  refine w_heappush (R := PairV D (-·) _) (lt := D.lt) (k := k) (S4.perm perm3) hv' ⟨q, a, rfl, hk, .head _, .tail _ ha⟩ hz (D.cmp hlt (by have := R.hu; show A.units + 3 + 3 < _; omega) (fun e he => by rcases List.mem_cons.mp he with rfl | he; exact .tail _ (.head _); exact .tail _ (.tail _ (h₀ he)))) fun vs' s5 ha5 S5 => ?_
  dsimp only
  repeat' walk_at "m:step"
  exact h _ _ _ (S5.sub ((List.Sublist.refl _).cons _ |>.cons_cons _)) ha5


theorem c_get {D : Dag} (hlt : D.LtOk) {l₀ : List Ent} (h₀ : l₀ ⊆ l) {W dx Dl : Addr} {vs : List Value} {hs : List Nat} {Q : Value → Shared → Prop} (S : St X g s ((Dl, ListIs vs) :: l)) (R : Rm A 3) (hW : (W, InstIs 80 dx) ∈ l) (hdx : (dx, AttrIs Dl) ∈ l)
    (hv : All2 (PairV D (-·) l₀) vs hs) (h0 : 0 < hs.length) (hz : hs.length < 1000)
    (h : ∀ vs' s' q a, St X g s' ((Dl, ListIs vs') :: (q, PairIs (D.st (hPop D.lt hs).1) a) :: l) → (a, RowIs (D.row (hPop D.lt hs).1)) ∈ l₀ → (hPop D.lt hs).1 < D.N → All2 (PairV D (-·) l₀) vs' (hPop D.lt hs).2 → Q (.ref q) s') : wpAny X.M A (call (.ref 70) [.ref W] []) Q E s := by
  refine' w_def (binds := [(Str.ofString "self", .ref W)]) S R ?ho ?hcd ?hbind ?h ?hloc ?hcell ?hco ?hgen ?hk
  case ho => k_is
  case hcd => k_is
  case hbind => exact BindsTo.of_eq rfl
  case hloc => rfl
  case hcell => decide
  case hco => rfl
  case hgen => rfl
  case hk => rfl
  intro L s1 S1
  repeat' walk_at "m:step"
  rename St _ _ _ _ => S2
  refine w_heappop (R := PairV D (-·) _) (lt := D.lt) S2.swap hv h0 hz (D.cmp hlt (by have := R.hu; show A.units + 3 + 3 < _; omega) (fun e he => .tail _ (h₀ he))) fun v vs' s3 hv3 ha3 S3 => ?_
  obtain ⟨p, a, rfl, hk, hp, ha⟩ := hv3
  replace S3 := S3.swap
  repeat' walk_at "m:step"
  rename St _ _ _ _ => S4
  obtain ⟨t, ht⟩ := S4.isPair (.tail _ (.tail _ (h₀ hp)))
  refine w_truthy2 S4 ht fun s4 S4 => ?_
  rw [if_pos rfl]
  repeat' walk_at "m:step"
  obtain ⟨t, ht⟩ := S4.isPair (.tail _ (.tail _ (h₀ hp)))
  refine w_unpack2 S4 R.hh ht fun s5 S5 => ?_
  clear S4
  repeat' walk_at "m:step"
  rename St _ _ _ _ => S6
  refine w_newTuple S6 (by rw [sizeLine_eq]; simp) fun q s7 S7 => ?_
  replace S7 := S7.wk (P' := PairIs (D.st (hPop D.lt hs).1) a) (.there .here) (fun o h => by simp only [Int.neg_neg] at h; exact ⟨_, h⟩)
  repeat' walk_at "m:step"
  exact h _ _ _ _ (S7.sub ((List.Sublist.refl _).cons _) |>.swap) ha hk ha3

theorem w_defR {k : Nat} {f : Addr} {name qual : Str} {params : Arguments} {body : List Stmt} {scope : Scope} {dV kV doc pm cdv ct oc : Value} {an od : Option Addr} {osl : Array (Option Value)} {pos : List Value} {kw : List (Str × Value)}
    {binds : List (Str × Value)} {Rr : Result → Shared → Prop} (S : St X g s l) (R : Rm A k)
    (ho : (hd.heap_39 X.w.params).lookup f = some ⟨oc, od, .func (fnOf name qual params body scope dV kV doc pm an cdv ct), osl⟩) (hcd : codeIn (hd.heap_39 X.w.params) cdv qual = true)
    (hbind : BindsTo s (fnOf name qual params body scope dV kV doc pm an cdv ct) ⟨pos, kw⟩ binds)
    (h : ∀ L s', St X g s' ((L, NsHas binds.reverse) :: l) → wpAny X.M (A.deeper (envX qual scope L f cdv [])) (execs body (envX qual scope L f cdv [])) (fun fl s'' => Rr (.ok (.ret (retOf fl))) s'') NoE s')
    (hloc : (binds.all fun y => decide (scope.names.lookup y.1 = some .local)) = true) (hcell : ∀ x ∈ scope.names, x.2 ≠ .cell) (hco : scope.isCoroutine = false) (hgen : scope.isGenerator = false) (hk : scope.kind = .function) :
    codeAny X.M A (.call (.ref f) ⟨pos, kw⟩) Rr s := by
  refine codeAny_call_def (binds := binds) R.d (S.keep _ _ (X.inK _ _ ho)) rfl (X.top.nolimit.keeps S.keep) ((codeRec_of X.inK hcd).keeps S.keep) rfl hbind hcell (locs hloc) (fun h₁ hns hk₁ => ?_) hco hgen hk
  obtain ⟨o, ho', hP⟩ := NsHas.of_ns (b := binds.reverse) hns (fun x v e => e)
  refine wpAny_mono (h s.heap.objs.size { s with heap := h₁, toks := s.toks + binds.length } (S.add (s' := { s with heap := h₁, toks := s.toks + binds.length }) hk₁ (none_size (Nat.le_refl _)) ho' hP S.ne_size)) (fun fl s'' hq => ?_) fun _ _ e => e.elim
  cases fl <;> exact hq
theorem w_setPq {W dx D : Addr} {L : Addr} {b : List (Str × Value)} {Q : Unit → Shared → Prop} (S : St X g s ((L, NsHas b) :: l)) (h1 : (W, InstIs 80 dx) ∈ l) (U : UpdE dx (Is emptyDict) (AttrIs D) l l') (h : ∀ s', St X g s' ((L, NsHas b) :: l') → Q () s') : wpAny X.M A (setAttr (.ref W) (Str.ofString "pq") (.ref D)) Q E s := by
  obtain ⟨m, F, hm⟩ := S.fr
  obtain ⟨pre, post, o, e1, e2, e3, n1, n2, back⟩ := newsL_upd U S
  obtain rfl : o = emptyDict := e2
  obtain ⟨ow, hw, rfl⟩ := S.mem (List.Mem.tail _ h1)
  have N := S.news
  rw [e1, List.append_assoc, List.cons_append] at N
  have I : InstAt s.heap W (instObj 80 dx) 80 (some (dictOf [] 0)) := ⟨hw, rfl, rfl, e3⟩
  refine set_plain S.K I (wl_setattr _) (osa_dict (s := { s with toks := s.toks + 1 }) F N S.K I rfl (wl_plain _) (wl_taker _) (by exact wl_has _) rfl n1 n2 (n := putN (Str.ofString "pq") [] 0) (es := putL (Str.ofString "pq") (PyData.keyHash X.w.params (Str.ofString "pq")) (.str (Str.ofString "pq") (s.toks + 1)) (.ref D) []) (od' := dictOf (putL (Str.ofString "pq") (PyData.keyHash X.w.params (Str.ofString "pq")) (.str (Str.ofString "pq") (s.toks + 1)) (.ref D) []) (putN (Str.ofString "pq") [] 0)) (by rw [putName_dict]) rfl (by show 1 ≤ 1000; omega) fun h' F' N' => h _ (back _ hm F' N' ⟨_, _, _, rfl⟩))
theorem w_newWL {k : Nat} {Q : Value → Shared → Prop} {f : Ent} (S : St X g s (f :: l)) (R : Rm A (k + 6)) 
    (h : ∀ W dx D s', St X g s' (f :: (D, ListIs []) :: (W, InstIs 80 dx) :: (dx, AttrIs D) :: l) → Q (.ref W) s') : wpAny X.M A (call (.ref 80) []) Q E s := by
  obtain ⟨hh, gg, d, t, os⟩ := s
  refine wpAny_call (make_core (makes_of S.K (wl_makes _)) (looks_findIn S.K (wl_find_init _)) (fun self => bind_fn S.K self (wl_type_init _)) (.inl rfl) ?_)
  have S1 := (S.push2 (o := emptyDict) (P := Is emptyDict) rfl).push2 (o := instObj 80 hh.objs.size) (P := InstIs 80 hh.objs.size) rfl
  simp only [Heap.size_push] at S1
  have R' : Rm (A.under (Code.builtin "type.__call__" ⟨[.ref 80], []⟩)) 4 := ⟨R.hh, by
    have := R.hd
    show A.depth + (Code.builtin "type.__call__" ⟨[.ref 80], []⟩).weight + 4 < _
    rw [show (Code.builtin "type.__call__" ⟨[.ref 80], []⟩).weight = 1 by with_unfolding_all rfl]; omega, by
    have := R.hu
    show A.units + (Code.builtin "type.__call__" ⟨[.ref 80], []⟩).cUnits + 3 * 4 + 3 < _
    rw [show (Code.builtin "type.__call__" ⟨[.ref 80], []⟩).cUnits = 1 by decide +kernel]; omega⟩
  refine' w_defR (binds := [(Str.ofString "self", .ref (hh.objs.size + 1))]) S1 R' ?ho ?hcd ?hbind ?h ?hloc ?hcell ?hco ?hgen ?hk
  case ho => k_is
  case hcd => k_is
  case hbind => exact BindsTo.of_eq rfl
  case hloc => rfl
  case hcell => decide
  case hco => rfl
  case hgen => rfl
  case hk => rfl
  intro L s1 S1
  repeat' walk_at "m:step"
  refine w_newList S1 (by rw [sizeLine_eq]; simp) fun D s2 S2 => ?_
  repeat' walk_at "m:step"
  refine w_setPq S2 (.tail _ (.tail _ (.head _))) (.there (.there (.there .here))) fun s3 S3 => ?_
  repeat' walk_at "m:step"
  exact ⟨rfl, h _ _ _ _ (S3.sub ((List.Sublist.refl _).cons _)).swap⟩
end
end

end Mine

namespace Mine
local macro_rules | `(tactic| walk_at "m:mem") => `(tactic| first | exact List.Mem.head _ | assumption | (refine List.Mem.tail _ ?_; walk_at "m:mem") | (refine List.mem_append_right _ ?_; walk_at "m:mem"))
local macro_rules | `(tactic| walk_at "m:glob") => `(tactic| first | exact n_len _ | exact n_range _ | exact n_sorted _ | exact n_abs _ | exact n_list _ | exact n_enumerate _ | k_is)
local macro_rules | `(tactic| walk_at "m:boot") => `(tactic| first | exact PySem.boot_len | exact PyProof.Rows.boot_range | exact PyProof.Rows.boot_sorted | exact PyProof.Rows.boot_abs | exact PyProof.Rows.boot_list | exact PyProof.Rows.boot_enumerate)
local macro_rules | `(tactic| walk_at "m:name") => `(tactic| first
  | (refine' w_local (by assumption) ?mhb ?_; (case mhb => exact rfl))
  | (refine' w_cell (by assumption) ?mhc ?mhm ?_; (case mhc => exact rfl); (case mhm => walk_at "m:mem"))
  | (refine' w_builtin (by assumption) ?mhe ?mhv ?_; (case mhe => walk_at "m:glob"); (case mhv => walk_at "m:boot"))
  | (refine' w_global (by assumption) ?mhe ?_; (case mhe => walk_at "m:glob"))
  | (refine' w_free (by assumption) ?mhc ?mhm ?_; (case mhc => exact rfl); (case mhm => walk_at "m:mem")))
local macro_rules | `(tactic| walk_at "m:kp") => `(tactic| first | exact kp_builtin | exact kp_type | exact kp_K (by assumption) (by k_is))
local macro_rules | `(tactic| walk_at "m:step") => `(tactic| first
  | with_reducible refine wpAny_items_nil ?_
  | ((with_reducible refine gd0 ?_); refine wpAny_items_cons ?_)
  | with_reducible refine wpAny_execs_nil ?_
  | with_reducible refine wpAny_execs_cons ?_
  | ((with_reducible refine gd1 ?_); walk_at "m:name")
  | ((with_reducible refine w_int (by assumption) ?_); intro _ _ _)
  | with_reducible refine wpAny_BinOp ?_
  | with_reducible refine PyProof.Rows.Subscript_ ?_
  | ((with_reducible refine gd2 ?_); refine w_Call ?_)
  | ((with_reducible refine gd3 ?_); refine wpAny_Compare1 ?_)
  | ((with_reducible refine gd4 ?_); refine wpAny_isTrue_Compare1 ?_)
  | with_reducible refine wpAny_truthy_bool ?_
  | with_reducible refine PyProof.Rows.gt_int ?_
  | with_reducible refine PyProof.Rows.lt_int ?_
  | with_reducible refine PyProof.Rows.eq_int ?_
  | with_reducible refine PyProof.Rows.ne_int ?_
  | ((with_reducible refine w_add (by assumption) ?_); intro _ _ _)
  | ((with_reducible refine w_sub (by assumption) ?_); intro _ _ _)
  | ((with_reducible refine w_and (by assumption) ?_); intro _ _ _)
  | ((with_reducible refine w_or (by assumption) ?_); intro _ _ _)
  | ((with_reducible refine w_neg (by assumption) ?_); intro _ _ _)
  | with_reducible refine wpAny_If ?_
  | ((with_reducible refine gd5 ?_); refine wpAny_Assign_Name ?_)
  | with_reducible refine wpAny_Return_some ?_
  | with_reducible refine wpAny_IfExp ?_
  | with_reducible refine wpAny_UnaryOp ?_
  | with_reducible refine wpAny_isTrue_Not ?_
  | with_reducible refine wpAny_Constant_none ?_
  | with_reducible refine wpAny_Constant_bool ?_
  | with_reducible refine wpAny_Continue ?_
  | with_reducible refine wpAny_Break ?_
  | with_reducible refine wpAny_isTrue_BoolOp ?_
  | with_reducible refine wpAny_allTrue_And_cons ?_
  | with_reducible refine wpAny_allTrue_And_nil ?_
  | with_reducible refine wpAny_allTrue_Or_cons ?_
  | with_reducible refine wpAny_allTrue_Or_nil ?_
  | ((with_reducible refine gd6 ?_); (refine w_store (by assumption) ?_); intro _ _)
  | (with_reducible refine PyProof.Rows.Tuple_ ?_)
  | (with_reducible refine PyProof.Rows.List_ ?_)
  | (with_reducible refine' And.intro ?mkp ?_; (case mkp => walk_at "m:kp"))
  | (with_reducible refine w_range1 (by assumption) ?_; intro _ _ _)
  | (with_reducible refine w_range2 (by assumption) ?_; intro _ _ _)
  | dsimp only)

section
open Sem (wp)
section
variable {M : Model} {A : Around} {R : GenEnd} {Y : Protocol} {n : Nat} {s₀ : Shared} {c : Code} {fs : List Frame} {s : Shared} {env : Env}
  {K : Flow → Sem PySem.Fin} {H : Value → Sem PySem.Fin} {gd : Bool → Bool} {lv : List Value → List Value}
abbrev forK (env : Env) (K : Flow → Sem PySem.Fin) (H : Value → Sem PySem.Fin) (gd : Bool → Bool) (lv : List Value → List Value) : Result → Sem PySem.Fin := fun r => ((match r with | .ok f => (.pure f : Sem Flow) | .error e => .raise e).onRaise fun (x : Value) => do
        if (← field x 1) == Value.none then unsupported "frame.own-activation:exception-without-traceback"
        setFlight x env.frame).wrap K H gd lv
theorem seg_For {target iter : Expr} {body : List Stmt} {pos : Pos}
    (h : wpAny M (A.over c fs) (eval iter env) (fun x s₁ => wpAny M (A.over c fs) (pyIter x) (fun it s₂ => ∀ p, Seg M A R Y n s₀ (.forLoop target it body [] env) (M.den (.forLoop target it body [] env)) (.ret (forK env K H gd lv) none (gd false) (lv []) c p [] :: fs) s₂) NoE s₁) NoE s)
    (hs : ∀ x, foldedSetIterable iter env x = pure x := by intro _; rfl) :
    Seg M A R Y n s₀ c ((exec (.For target iter body [] pos) env).wrap K H gd lv) fs s := by
  rw [exec_For]
  refine seg_bind_wrap (wpAny_standAt ?_)
  refine seg_bind_wrap (wpAny_mono h (fun x s₁ h₁ => ?_) fun _ _ e => e.elim)
  refine seg_bind_wrap (wpAny_of_eq (hs x) ?_)
  refine seg_bind_wrap (wpAny_standAt ?_)
  refine seg_bind_wrap (wpAny_holding (wpAny_mono h₁ (fun it s₂ h₂ => ?_) fun _ _ e => e.elim))
  exact seg_call h₂
end
section
variable {prog : Program} {w : World} {A : Around} {R : GenEnd} {Y : Protocol} {n : Nat} {s₀ : Shared} {fs : List Frame} {s : Shared} {env : Env}
abbrev loopH (env : Env) : Value → Sem PySem.Fin := fun e => (do noteFrame e env; theTreesLotGoes e : Sem Unit).wrap (fun _ => .raise e) .raise id id
theorem seg_forLoop {target : Expr} {it : Value} {body : List Stmt} 
    (h : wpAny (model prog w) (A.over (.forLoop target it body [] env) fs) (pyNext it) (fun r s' => match r with
        | none => Seg (model prog w) A R Y n s₀ (.block [] env) (leafOf (.ok .next)) fs s'
        | some v => wpAny (model prog w) (A.over (.forLoop target it body [] env) fs) (letOwnedTupleGo target it v) (fun _ s' => wpAny (model prog w) (A.over (.forLoop target it body [] env) fs) (assign target env v) (fun _ s'' =>
            Seg (model prog w) A R Y n s₀ (.forLoop target it body [] env) ((execs body env).wrap (fun f => match f with
            | .next | .cont => .pure (.again (.forLoop target it body [] env))
            | .brk => .pure (.done .next)
            | .ret v => .pure (.done (.ret v))) (loopH env) id id) fs s'') NoE s') NoE s') NoE s) :
    Seg (model prog w) A R Y n s₀ (.forLoop target it body [] env) ((model prog w).den (.forLoop target it body [] env)) fs s := by
  show Seg _ A R Y n s₀ _ ((forTurn target it body [] env).onRaise (fun x => do noteFrame x env; theTreesLotGoes x)) fs s
  unfold forTurn
  rw [Sem.onRaise_eq_wrap]
  refine seg_bind_wrap (wpAny_standAt ?_)
  refine seg_bind_wrap (wpAny_onRaise (wpAny_mono h (fun r s₁ h₁ => ?_) fun _ _ e => e.elim))
  cases r with
  | none => exact seg_again rfl h₁
  | some v =>
    refine seg_bind_wrap (wpAny_mono h₁ (fun _ s₂ h₂ => ?_) fun _ _ e => e.elim)
    refine seg_bind_wrap (wpAny_mono h₂ (fun _ s₃ h₃ => ?_) fun _ _ e => e.elim)
    rw [Sem.bind_eq_wrap', Sem.wrap_wrap]
    rw [Sem.wrap_congr (execs body env) _ _ (K' := fun f => match f with
            | .next | .cont => .pure (.again (.forLoop target it body [] env))
            | .brk => .pure (.done .next)
            | .ret v => .pure (.done (.ret v))) (H' := loopH env)
        (fun f => by cases f <;> rfl)
        (fun e => by first | exact Sem.bind_eq_wrap _ _ | (show (do noteFrame e env; theTreesLotGoes e : Sem Unit).bind (fun _ => .raise e) = _; rw [Sem.bind_eq_wrap]))]
    exact h₃
end

section
variable {prog : Program} {w : World} {A : Around} {E : Value → Shared → Prop} {s : Shared}
theorem pyNext_genQ {a : Addr} {g n : Nat} {gs : GenState} {P : Nat → Shared → Shared → Prop} {Y : Protocol} {Q : Option Value → Shared → Prop} (hh : A.handled = none)
    (hl : s.heap.NoLimit) (hroom : A.depth < recursionLimit)
    (hg : s.heap.IsGen a g) (hgs : s.gens[g]? = some gs)
    (hgo : gs.Goes (model prog w) A.in1 (fun n s₀ r s₁ => r = .ok (.ret .none) ∧ P n s₀ s₁) Y n (.send .none) (s.setGen g .running))
    (hY : ∀ v s₁ gs', gs'.bare = true → Y (n - 1) (s.setGen g .running) v s₁ (fun r' s'' => match n with
        | 0 => False
        | m + 1 => gs'.Goes (model prog w) A.in1 (fun n s₀ r s₁ => r = .ok (.ret .none) ∧ P n s₀ s₁) Y m r' s'') → Q (some v) (s₁.setGen g gs'))
    (hP : ∀ s₁, P n (s.setGen g .running) s₁ → ∀ h', (∀ b o, s₁.heap.get? b = some o → h'.get? b = some o) → Q none { s₁.setGen g .finished with heap := h' }) :
    wpAny (model prog w) A (pyNext (.ref a)) Q E s := by
  unfold pyNext
  refine wpAny_bind (wpAny_attempt (wpAny_callSpecial?_slot (name := Str.ofString "__next__") hg.typeIs slot_gen_next
    (wpAny_call_entry slot_gen_next hg.typeIs entry_gen_next ?_ (args_gen_next _))))
  show wpAny _ A.in1 (Builtin.Generator.genWake (.ref a) (.send .none)) _ _ s
  unfold Builtin.Generator.genWake
  refine wpAny_bind (wpAny_holding (wpAny_genNumber hg (wpAny_bind (wpAny_genState hgs ?_))))
  cases gs with
  | running => exact hgo.elim
  | finished => exact hgo.elim
  | _ =>
    refine wpAny_bind (wpAny_roomToWake hl hroom ?_)
    show wpAny _ A.in1 (.resume g (.send .none) [] _) _ _ s
    refine wpAny_resumeQ hgs hgo (fun x s₁ hx => ?_) (fun v s₁ gs' hb hv => ?_)
    · obtain ⟨rfl, hp⟩ := hx
      show wpAny _ A.in1 (newExc (.type "StopIteration") [] >>= _) _ _ _
      refine wpAny_bind ?_
      simp only [newExc, newTuple]
      refine wpAny_bind (wpAny_newObj_type ?_ (by size_fits))
      refine wpAny_bind (m := firstArgMember _ _) (wpAny_of_eq (a := Value.none) (by first | rfl | (simp only [firstArgMember]; rfl)) ?_)
      refine wpAny_newObj_type ?_ (by size_fits)
      simp only [raiseNew]
      refine wpAny_bind (wpAny_bind (wpAny_handled ?_))
      first | rw [show A.in1.handled = none from hh] | rw [hh]
      refine wpAny_throw ?_
      refine wpAny_bind (wpAny_isInstance (T := "StopIteration") (b := true) ⟨_, Heap.get?_push_size _ rfl, rfl⟩ isSubtype_stop ?_)
      exact wpAny_pure (hP s₁ hp _ fun b o hb => Heap.get?_push_of_some _ (Heap.get?_push_of_some _ hb))
    · exact wpAny_pure ⟨v, rfl, wpAny_pure (hY v s₁ gs' hb hv)⟩
end
section
variable {X : Cx} {g : Array GenState} {s : Shared} {l l' : List Ent} {A : Around} {E : Value → Shared → Prop} {env : Env}
theorem St.setGen (S : St X g s l) (i : Nat) (x : GenState) : St X (g.setIfInBounds i x) (s.setGen i x) l := ⟨S.keep, S.get, S.new, S.nd, S.os, by show s.gens.setIfInBounds i x = _; rw [S.gens], S.dr⟩
theorem St.reGen (S : St X g s l) (g' : Array GenState) : St X g' { s with gens := g' } l := ⟨S.keep, S.get, S.new, S.nd, S.os, rfl, S.dr⟩
theorem letOwned_list {I ax : Addr} {i : Nat} {k : Nat} {v : Value} {elts : List Expr} {pos : Pos} {M : Model} (ho : ∃ o, s.heap.get? I = some o ∧ LIterIs ax i o) {Q : Unit → Shared → Prop} (h : Q () s) :
    wpAny M A (letOwnedTupleGo (.Tuple elts k pos) (.ref I) v) Q E s := by
  obtain ⟨o, ho, hc, hd⟩ := ho
  unfold letOwnedTupleGo
  cases v with
  | ref a =>
    refine wpAny_bind (wpAny_load ho ?_)
    rw [hc, hd]
    exact wpAny_pure h
  | _ => exact wpAny_pure h
end
end

end Mine

namespace Mine
local macro_rules | `(tactic| walk_at "m:mem") => `(tactic| first | exact List.Mem.head _ | assumption | (refine List.Mem.tail _ ?_; walk_at "m:mem") | (refine List.mem_append_right _ ?_; walk_at "m:mem"))
local macro_rules | `(tactic| walk_at "m:glob") => `(tactic| first | exact n_len _ | exact n_range _ | exact n_sorted _ | exact n_abs _ | exact n_list _ | exact n_enumerate _ | k_is)
local macro_rules | `(tactic| walk_at "m:boot") => `(tactic| first | exact PySem.boot_len | exact PyProof.Rows.boot_range | exact PyProof.Rows.boot_sorted | exact PyProof.Rows.boot_abs | exact PyProof.Rows.boot_list | exact PyProof.Rows.boot_enumerate)
local macro_rules | `(tactic| walk_at "m:name") => `(tactic| first
  | (refine' w_local (by assumption) ?mhb ?_; (case mhb => exact rfl))
  | (refine' w_cell (by assumption) ?mhc ?mhm ?_; (case mhc => exact rfl); (case mhm => walk_at "m:mem"))
  | (refine' w_builtin (by assumption) ?mhe ?mhv ?_; (case mhe => walk_at "m:glob"); (case mhv => walk_at "m:boot"))
  | (refine' w_global (by assumption) ?mhe ?_; (case mhe => walk_at "m:glob"))
  | (refine' w_free (by assumption) ?mhc ?mhm ?_; (case mhc => exact rfl); (case mhm => walk_at "m:mem")))
local macro_rules | `(tactic| walk_at "m:kp") => `(tactic| first | exact kp_builtin | exact kp_type | exact kp_K (by assumption) (by k_is))
local macro_rules | `(tactic| walk_at "m:step") => `(tactic| first
  | with_reducible refine wpAny_items_nil ?_
  | ((with_reducible refine gd0 ?_); refine wpAny_items_cons ?_)
  | with_reducible refine wpAny_execs_nil ?_
  | with_reducible refine wpAny_execs_cons ?_
  | ((with_reducible refine gd1 ?_); walk_at "m:name")
  | ((with_reducible refine w_int (by assumption) ?_); intro _ _ _)
  | with_reducible refine wpAny_BinOp ?_
  | with_reducible refine PyProof.Rows.Subscript_ ?_
  | ((with_reducible refine gd2 ?_); refine w_Call ?_)
  | ((with_reducible refine gd3 ?_); refine wpAny_Compare1 ?_)
  | ((with_reducible refine gd4 ?_); refine wpAny_isTrue_Compare1 ?_)
  | with_reducible refine wpAny_truthy_bool ?_
  | with_reducible refine PyProof.Rows.gt_int ?_
  | with_reducible refine PyProof.Rows.lt_int ?_
  | with_reducible refine PyProof.Rows.eq_int ?_
  | with_reducible refine PyProof.Rows.ne_int ?_
  | ((with_reducible refine w_add (by assumption) ?_); intro _ _ _)
  | ((with_reducible refine w_sub (by assumption) ?_); intro _ _ _)
  | ((with_reducible refine w_and (by assumption) ?_); intro _ _ _)
  | ((with_reducible refine w_or (by assumption) ?_); intro _ _ _)
  | ((with_reducible refine w_neg (by assumption) ?_); intro _ _ _)
  | with_reducible refine wpAny_If ?_
  | ((with_reducible refine gd5 ?_); refine wpAny_Assign_Name ?_)
  | with_reducible refine wpAny_Return_some ?_
  | with_reducible refine wpAny_IfExp ?_
  | with_reducible refine wpAny_UnaryOp ?_
  | with_reducible refine wpAny_isTrue_Not ?_
  | with_reducible refine wpAny_Constant_none ?_
  | with_reducible refine wpAny_Constant_bool ?_
  | with_reducible refine wpAny_Continue ?_
  | with_reducible refine wpAny_Break ?_
  | with_reducible refine wpAny_isTrue_BoolOp ?_
  | with_reducible refine wpAny_allTrue_And_cons ?_
  | with_reducible refine wpAny_allTrue_And_nil ?_
  | with_reducible refine wpAny_allTrue_Or_cons ?_
  | with_reducible refine wpAny_allTrue_Or_nil ?_
  | ((with_reducible refine gd6 ?_); (refine w_store (by assumption) ?_); intro _ _)
  | (with_reducible refine PyProof.Rows.Tuple_ ?_)
  | (with_reducible refine PyProof.Rows.List_ ?_)
  | (with_reducible refine' And.intro ?mkp ?_; (case mkp => walk_at "m:kp"))
  | (with_reducible refine w_range1 (by assumption) ?_; intro _ _ _)
  | (with_reducible refine w_range2 (by assumption) ?_; intro _ _ _)
  | dsimp only)
local macro_rules | `(tactic| walk_at "m:glob") => `(tactic| first | exact n_heappush _ | exact n_heappop _)
local macro_rules | `(tactic| walk_at "m:step") => `(tactic| first
  | ((with_reducible refine gd7 ?_); refine wpAny_Expr ?_)
  | ((with_reducible refine gd8 ?_); refine Attribute_any_ ?_)
  | ((with_reducible refine gd9 ?_); (refine w_getPq (by assumption) (by walk_at "m:mem") (by walk_at "m:mem") ?_); intro _ _)
  | ((with_reducible refine gd10 ?_); refine Assign_Tuple ?_)
  | ((with_reducible refine gd11 ?_); refine plainObj_wpAny_Assign_Attribute ?_))
local macro_rules | `(tactic| walk_at "m:step") => `(tactic| first
  | ((with_reducible refine gd12 ?_); refine wpAny_isTrue_value ?_)
  | ((with_reducible refine gd13 ?_); refine wpAny_isTrue_value ?_))

section
theorem primeGen : (fun (_ : OpenLaw) (_ : Params → Frag) => True) PySem.Challenge.rw_ft5005_01 hd.heap_39 := by k_fill; trivial
section
variable {X : Cx} {g : Array GenState} {s : Shared} {l l' : List Ent} {A : Around} {E : Value → Shared → Prop} {env : Env}

/-- what a walk through a worklist is told -/
structure GenCx where
  X : Cx
  Dl : Addr
  vs : List Value
  Lg : Addr
  Lh : Addr
  l : List Ent

variable {body₀ : List Stmt}
def GenCx.Item (C : GenCx) (i : Nat) (k : Int) (a : Addr) : Prop := ∃ p, C.vs[i]? = some (.ref p) ∧ (p, PairIs k a) ∈ C.l
abbrev GenCx.Y (C : GenCx) : Protocol := fun m s₀ v s kap => ∃ i o I b q k a, i + m + 1 = C.vs.length ∧ s₀.heap.get? C.Lh = some o ∧ v = .ref q ∧ C.Item i k a ∧
  St C.X s₀.gens s ((C.Lg, NsHas b) :: (q, PairIs (-k) a) :: (I, LIterIs C.Dl (i + 1)) :: (C.Lh, Is o) :: C.l) ∧
  ∀ s'' g'' o'', St C.X g'' s'' ((C.Lg, NsHas b) :: (I, LIterIs C.Dl (i + 1)) :: (C.Lh, Is o'') :: C.l) → kap (.send .none) s''
abbrev GenCx.P (C : GenCx) : Nat → Shared → Shared → Prop := fun n s₀ s₁ => n = 0 ∧ ∃ o, s₀.heap.get? C.Lh = some o ∧ St C.X s₀.gens s₁ ((C.Lh, Is o) :: C.l)
abbrev GenCx.R (C : GenCx) : GenEnd := fun n s₀ r s₁ => r = .ok (.ret .none) ∧ C.P n s₀ s₁
abbrev gscope : Scope := { kind := .function, names := [(Str.ofString "self", .local), (Str.ofString "pr", .local), (Str.ofString "cmt", .local)], isGenerator := true, isCoroutine := false }
abbrev genv (Lg : Addr) : Env := envX (Str.ofString "WorkList.iter") gscope Lg 77 (.ref 76) []

def GenIs (n : Nat) (o : Obj) : Prop := o.cls = .type "generator" ∧ (∃ nm qn, o.data = .fields #[.int n 0, nm, qn]) ∧ o.slots = #[]
theorem w_gen {k : Nat} {f : Addr} {f0 : Ent} {name qual : Str} {params : Arguments} {body : List Stmt} {scope : Scope} {dV kV doc pm cdv ct oc : Value} {an od : Option Addr} {osl : Array (Option Value)} {pos : List Value} {kw : List (Str × Value)}
    {binds : List (Str × Value)} {Q : Value → Shared → Prop} (S : St X g s (f0 :: l)) (R : Rm A k)
    (ho : (hd.heap_39 X.w.params).lookup f = some ⟨oc, od, .func (fnOf name qual params body scope dV kV doc pm an cdv ct), osl⟩) (hcd : codeIn (hd.heap_39 X.w.params) cdv qual = true)
    (hbind : BindsTo s (fnOf name qual params body scope dV kV doc pm an cdv ct) ⟨pos, kw⟩ binds)
    (h : ∀ Ga Lg s', St X (g.push (.fresh (.func body (envX qual scope Lg f cdv [])))) s' (f0 :: (Ga, GenIs g.size) :: (Lg, NsHas binds.reverse) :: l) → Q (.ref Ga) s')
    (hloc : (binds.all fun y => decide (scope.names.lookup y.1 = some .local)) = true) (hcell : ∀ x ∈ scope.names, x.2 ≠ .cell) (hco : scope.isCoroutine = false) (hgen : scope.isGenerator = true) (hk : scope.kind = .function) :
    wpAny X.M A (call (.ref f) pos kw) Q E s := by
  refine wpAny_call ?_
  refine codeAny_call_generator (body := body) R.d (S.keep _ _ (X.inK _ _ ho)) rfl hco hgen rfl ((codeRec_of X.inK hcd).keeps S.keep) (hbind _ _ _ _ ?_)
  refine wpAny_newFunctionEnv hcell (locs hloc) (fun h₁ hns hsb => ⟨(X.top.nolimit.keeps S.keep).fresh _ hsb, ?_⟩) hk
  obtain ⟨o, ho', hP⟩ := NsHas.of_ns (b := binds.reverse) hns (fun x v e => e)
  have hk₁ : ∀ b o, s.heap.get? b = some o → h₁.get? b = some o := fun b o e => hsb.extBut b o (Nat.ne_of_lt (Heap.lt_size e)) (Heap.get?_push_of_some _ e)
  have S1 : St X g { s with heap := h₁, toks := s.toks + binds.length } ((s.heap.objs.size, NsHas binds.reverse) :: f0 :: l) :=
    S.add (s' := { s with heap := h₁, toks := s.toks + binds.length }) hk₁ (none_size (Nat.le_refl _)) ho' hP S.ne_size
  have hg : s.gens = g := S.gens
  subst hg
  have S2 := S1.swap.push2 (o := { cls := .type "generator", data := .fields #[.int s.gens.size 0, .str name (s.toks + binds.length), .str qual (s.toks + binds.length + 1)] }) (P := GenIs s.gens.size) ⟨rfl, ⟨_, _, rfl⟩, rfl⟩
  have S3 := ((S2.tok (s.toks + binds.length + 1 + 1)).reGen (s.gens.push (.fresh (.func body (envX qual scope s.heap.objs.size f cdv [])))))
  exact h _ _ _ S3

/-- the loop: a name each for the two of a pair, the first one's negative given out with the second -/
abbrev gTar (p1 p2 p3 : Pos) (k : Nat) : Expr := .Tuple [.Name (Str.ofString "pr") p1, .Name (Str.ofString "cmt") p2] k p3
abbrev gYld (p4 p5 p6 p7 : Pos) (k : Nat) : Expr := .Tuple [.UnaryOp .USub (.Name (Str.ofString "pr") p4) p5, .Name (Str.ofString "cmt") p6] k p7
abbrev gSt (p4 p5 p6 p7 p8 p9 : Pos) (k : Nat) : Stmt := .Expr (.Yield (some (gYld p4 p5 p6 p7 k)) p8) p9
theorem over_room {k : Nat} {K : Result → Sem PySem.Fin} {gf : Bool} {lv : List Value} {body : List Stmt} {Lg : Addr} {it : Value} {bd : List Stmt} {tg : Expr} {p : Pos} (R : Rm A (k + 2)) :
    Rm (A.in1.over (.forLoop tg it bd [] (genv Lg)) [.ret K none gf lv (.func body (genv Lg)) p []]) k := by
  refine ⟨R.hh, ?_, ?_⟩
  · have := R.hd
    show A.depth + frameCount [(Code.func body (genv Lg), p)] + (Code.forLoop tg it bd [] (genv Lg)).weight + k < _
    rw [frameCount_cons]
    rw [show (Code.func body (genv Lg)).weight = 1 by with_unfolding_all rfl, show (Code.forLoop tg it bd [] (genv Lg)).weight = 0 by with_unfolding_all rfl, show frameCount [] = 0 from rfl]
    omega
  · have := R.hu
    show A.units + 1 + unitsOf [(Code.func body (genv Lg), p)] + (Code.forLoop tg it bd [] (genv Lg)).cUnits + 3 * k + 3 < _
    rw [unitsOf_cons]
    rw [show (Code.func body (genv Lg)).cUnits = 3 by with_unfolding_all rfl, show (Code.forLoop tg it bd [] (genv Lg)).cUnits = 0 by with_unfolding_all rfl, show unitsOf [] = 0 from rfl]
    omega
theorem gen_loop (C : GenCx) (hX : C.X = X) {k : Nat} {p1 p2 p3 p4 p5 p6 p7 p8 p9 p : Pos} {k1 k2 : Nat} {K : Flow → Sem PySem.Fin} {H : Value → Sem PySem.Fin} {lv : List Value → List Value} {c : Code} (R : Rm A (k + 4)) (hD : (C.Dl, ListIs C.vs) ∈ C.l)
    (hitem : ∀ (i : Nat) (v : Value), C.vs[i]? = some v → ∃ p k a, v = Value.ref p ∧ (p, PairIs k a) ∈ C.l)
    (hK : ∀ n s₀ s, C.R n s₀ (.ok (.ret .none)) s → Seg X.M A.in1 C.R C.Y n s₀ c (K .next) [] s) (hc : c = .func body₀ (genv C.Lg)) :
    ∀ (d i : Nat) (g : Array GenState) (s₀ s : Shared) (o : Obj) (I : Addr) (b : List (Str × Value)), C.vs.length - i = d → i ≤ C.vs.length → St X g s ((C.Lg, NsHas b) :: (I, LIterIs C.Dl i) :: (C.Lh, Is o) :: C.l) → s₀.heap.get? C.Lh = some o → s₀.gens = g →
      Seg X.M A.in1 C.R C.Y (C.vs.length - i) s₀ (.forLoop (gTar p1 p2 p3 k1) (.ref I) [gSt p4 p5 p6 p7 p8 p9 k2] [] (genv C.Lg)) (X.M.den (.forLoop (gTar p1 p2 p3 k1) (.ref I) [gSt p4 p5 p6 p7 p8 p9 k2] [] (genv C.Lg)))
        [.ret (forK (genv C.Lg) K H id lv) none (id false) (lv []) c p []] s := by
  subst hX
  intro d
  induction d with
  | zero =>
    intro i g s₀ s o I b hd hi S h0 hg0
    have hin : i = C.vs.length := by omega
    subst hin
    refine seg_forLoop ?_
    refine (It.list (A := _) (by exact R.hh) I C.Dl C.vs).done S.swap (by intro q hq; rcases List.mem_singleton.mp hq with rfl; exact .tail _ (.tail _ hD)) fun s1 S1 => ?_
    dsimp only
    refine seg_leaf (.ok .next) ?_
    refine hK _ _ _ ⟨rfl, by rw [Nat.sub_self], o, h0, ?_⟩
    subst hg0
    exact S1.sub ((List.Sublist.refl _).cons _)
  | succ d ih =>
    intro i g s₀ s o I b hd hi S h0 hg0
    have hlt : i < C.vs.length := by omega
    refine seg_forLoop ?_
    refine (It.list (A := _) (by exact R.hh) I C.Dl C.vs).item hlt S.swap (by intro q hq; rcases List.mem_singleton.mp hq with rfl; exact .tail _ (.tail _ hD)) fun v s1 hv S1 => ?_
    dsimp only
    obtain ⟨q, κ, a, rfl, hq⟩ := hitem i v hv
    refine letOwned_list (i := i + 1) (ax := C.Dl) (by obtain ⟨o, h1, h2⟩ := S1.mem (.head _); exact ⟨o, h1, h2⟩) ?_
    obtain ⟨t, ht⟩ := S1.isPair (.tail _ (.tail _ (.tail _ hq)))
    refine w_unpack2 (env := genv C.Lg) S1.swap (by exact R.hh) ht fun s2 S2 => ?_
    refine seg_execs_cons ?_
    have en : C.vs.length - i = (C.vs.length - (i + 1)) + 1 := by omega
    rw [en]
    refine seg_Expr_Yield rfl rfl rfl ?_
    repeat' walk_at "m:step"
    rename St _ _ _ _ => S3
    refine w_newTuple S3 (by rw [sizeLine_eq]; simp) fun r s4 S4 => ?_
    replace S4 := S4.wk (P' := PairIs (-κ) a) (.there .here) (fun o h => ⟨_, h⟩)
    intro kap hkap
    refine ⟨i, o, I, (Str.ofString "cmt", Value.ref a) :: (Str.ofString "pr", Value.int κ t) :: b, r, κ, a, by omega, h0, rfl, ⟨q, hv, hq⟩, ?_, fun s'' g'' o'' S'' => hkap .none s'' ?_⟩
    · subst hg0; exact S4
    · dsimp only
      refine seg_execs_nil ?_
      refine seg_again rfl ?_
      obtain ⟨o3, h3, h4⟩ := S''.mem (a := C.Lh) (.tail _ (.tail _ (.head _)))
      exact ih (i + 1) g'' s'' s'' o'' I _ (by omega) (by omega) S'' (by rw [h3, h4]) S''.gens


abbrev gFor (p1 p2 p3 p4 p5 p6 p7 p8 p9 p10 p11 p12 : Pos) (k1 k2 : Nat) : Stmt := .For (gTar p1 p2 p3 k1) (.Attribute (.Name (Str.ofString "self") p10) (Str.ofString "pq") p11) [gSt p4 p5 p6 p7 p8 p9 k2] [] p12
theorem func_room {k : Nat} {body : List Stmt} {Lg : Addr} (R : Rm A (k + 2)) : Rm (A.in1.over (.func body (genv Lg)) []) k := by
  refine ⟨R.hh, ?_, ?_⟩
  · have := R.hd
    show A.depth + frameCount [] + (Code.func body (genv Lg)).weight + k < _
    rw [show (Code.func body (genv Lg)).weight = 1 by with_unfolding_all rfl, show frameCount [] = 0 from rfl]
    omega
  · have := R.hu
    show A.units + 1 + unitsOf [] + (Code.func body (genv Lg)).cUnits + 3 * k + 3 < _
    rw [show (Code.func body (genv Lg)).cUnits = 3 by with_unfolding_all rfl, show unitsOf [] = 0 from rfl]
    omega
theorem gen_start (C : GenCx) (hX : C.X = X) {k : Nat} {W dx : Addr} {p1 p2 p3 p4 p5 p6 p7 p8 p9 p10 p11 p12 : Pos} {k1 k2 : Nat} (R : Rm A (k + 4)) (hD : (C.Dl, ListIs C.vs) ∈ C.l) (hW : (W, InstIs 80 dx) ∈ C.l) (hdx : (dx, AttrIs C.Dl) ∈ C.l)
    (hitem : ∀ (i : Nat) (v : Value), C.vs[i]? = some v → ∃ p k a, v = Value.ref p ∧ (p, PairIs k a) ∈ C.l) (g : Array GenState) (s : Shared) (o : Obj) (S : St X g s ((C.Lg, NsHas [(Str.ofString "self", .ref W)]) :: (C.Lh, Is o) :: C.l)) :
    Seg X.M A.in1 C.R C.Y C.vs.length s (.func [gFor p1 p2 p3 p4 p5 p6 p7 p8 p9 p10 p11 p12 k1 k2] (genv C.Lg)) (X.M.den (.func [gFor p1 p2 p3 p4 p5 p6 p7 p8 p9 p10 p11 p12 k1 k2] (genv C.Lg))) [] s := by
  refine seg_func ?_
  refine seg_execs_cons ?_
  refine seg_For ?_
  have R' : Rm (A.in1.over (.func [gFor p1 p2 p3 p4 p5 p6 p7 p8 p9 p10 p11 p12 k1 k2] (genv C.Lg)) []) 0 := func_room (R.le (by omega))
  subst hX
  repeat' walk_at "m:step"
  rename St _ _ _ _ => S1
  refine w_iterList (f := (C.Lh, Is o)) S1 (.tail _ (.tail _ hD)) fun I s2 S2 => ?_
  intro p
  obtain ⟨o1, h1, h2⟩ := S.mem (a := C.Lh) (.tail _ (.head _))
  show Seg _ _ _ _ (C.vs.length - 0) _ _ _ _ _
  refine gen_loop (lv := id) C rfl R hD hitem (fun n s₀ s h => ?_) rfl C.vs.length 0 g s s2 o I _ rfl (Nat.zero_le _) S2.swap (by rw [h1, h2]) S.gens
  refine seg_execs_nil ?_
  exact seg_end (.ok (.ret .none)) h
theorem c_iter {k : Nat} {W : Addr} {f0 : Ent} {Q : Value → Shared → Prop} (S : St X g s (f0 :: l)) (R : Rm A k)
    (h : ∀ Ga Lg s' p1 p2 p3 p4 p5 p6 p7 p8 p9 p10 p11 p12 k1 k2, St X (g.push (.fresh (.func [gFor p1 p2 p3 p4 p5 p6 p7 p8 p9 p10 p11 p12 k1 k2] (genv Lg)))) s' (f0 :: (Ga, GenIs g.size) :: (Lg, NsHas [(Str.ofString "self", .ref W)]) :: l) → Q (.ref Ga) s') : wpAny X.M A (call (.ref 77) [.ref W] []) Q E s := by
  refine' w_gen (binds := [(Str.ofString "self", .ref W)]) S R ?ho ?hcd ?hbind ?h ?hloc ?hcell ?hco ?hgen ?hk
  case ho => k_is
  case hcd => k_is
  case hbind => exact BindsTo.of_eq rfl
  case hloc => rfl
  case hcell => decide
  case hco => rfl
  case hgen => rfl
  case hk => rfl
  exact fun Ga Lg s' S' => h Ga Lg s' _ _ _ _ _ _ _ _ _ _ _ _ _ _ S'

theorem St.exact {a : Addr} {P : Obj → Prop} (S : St X g s ((a, P) :: l)) : ∃ o, P o ∧ s.heap.get? a = some o ∧ St X g s ((a, Is o) :: l) := by
  obtain ⟨o, h1, h2⟩ := S.mem (.head _)
  exact ⟨o, h2, h1, S.upd (s' := s) .here (fun _ _ _ e => e) h1 rfl⟩
theorem AllBare.set {g : Array GenState} {i : Nat} {x : GenState} (h : AllBare g) (hx : x.bare = true) : AllBare (g.setIfInBounds i x) := by
  intro y hy
  obtain ⟨j, hj, rfl⟩ := Array.getElem_of_mem hy
  rw [Array.getElem_setIfInBounds (by simpa using hj)]
  split
  · exact hx
  · exact h _ (Array.getElem_mem _)
theorem set_set {g : Array GenState} {i : Nat} {x y : GenState} : (g.setIfInBounds i x).setIfInBounds i y = g.setIfInBounds i y := by
  apply Array.ext
  · simp
  · intro j h1 h2
    have hj : j < g.size := by simpa using h2
    rw [Array.getElem_setIfInBounds (by simpa using hj), Array.getElem_setIfInBounds hj]
    by_cases e : i = j
    · simp [e]
    · simp [e, Array.getElem_setIfInBounds, hj]
def GenCx.Ready (C : GenCx) (A : Around) (gs : GenState) (GE : List Ent) (m : Nat) : Prop :=
  gs.bare = true ∧ ∀ s'' g'' o'', St C.X g'' s'' (GE ++ (C.Lh, Is o'') :: C.l) → gs.Goes C.X.M A.in1 C.R C.Y m (.send .none) s''
theorem w_genNext (C : GenCx) {k : Nat} {GE : List Ent} {m gi : Nat} {gs : GenState} {Ga : Addr} {b : List (Str × Value)} {Q : Option Value → Shared → Prop} (S : St C.X g s ((C.Lh, NsHas b) :: (GE ++ C.l))) (R : Rm A k) (hG : C.Ready A gs GE m) (hGa : (Ga, GenIs gi) ∈ C.l)
    (hgs : g[gi]? = some gs) (hb : AllBare g)
    (hit : ∀ i m' κ a q GE' gs' g' s', m = m' + 1 → i + m = C.vs.length → C.Item i κ a → C.Ready A gs' GE' m' → g'[gi]? = some gs' → AllBare g' → St C.X g' s' ((C.Lh, NsHas b) :: (q, PairIs (-κ) a) :: (GE' ++ C.l)) → Q (some (.ref q)) s')
    (hend : ∀ g' s', m = 0 → AllBare g' → St C.X g' s' ((C.Lh, NsHas b) :: C.l) → Q none s') : wpAny C.X.M A (pyNext (.ref Ga)) Q E s := by
  obtain ⟨o, hPo, ho, S1⟩ := S.exact
  have S2 : St C.X g s (GE ++ (C.Lh, Is o) :: C.l) := S1.perm List.perm_middle.symm
  have hgen : s.heap.IsGen Ga gi := by
    obtain ⟨o', h1, hc, ⟨nm, qn, hd⟩, hsl⟩ := S.mem (.tail _ (List.mem_append_right _ hGa))
    exact ⟨o', nm, qn, h1, hc, hd, hsl⟩
  have hsg : s.gens = g := S.gens
  have hlt : gi < g.size := by
    by_cases h : gi < g.size
    · exact h
    · rw [Array.getElem?_eq_none (by omega)] at hgs; cases hgs
  refine pyNext_genQ (P := C.P) (Y := C.Y) (n := m) R.hh (C.X.top.nolimit.keeps S.keep) R.d hgen (by rw [hsg]; exact hgs) (hG.2 _ _ o (S2.setGen gi .running)) ?_ ?_
  · rintro v s₁ gs' hbare ⟨i, o', I, b', q, κ, a, hi, ho', rfl, hitem, S3, hkap⟩
    have eo : o' = o := by
      have e : s.heap.get? C.Lh = some o' := ho'
      rw [ho] at e; exact (Option.some.inj e).symm
    subst eo
    cases m with
    | zero => exact (hkap s₁ _ o' (S3.sub (((List.Sublist.refl _).cons _).cons_cons _))).elim
    | succ m' =>
      have e4 : (s.setGen gi .running).gens = g.setIfInBounds gi .running := by show s.gens.setIfInBounds gi .running = _; rw [hsg]
      rw [e4] at S3
      have S4 := S3.setGen gi gs'
      rw [set_set] at S4
      refine hit i m' κ a q [(C.Lg, NsHas b'), (I, LIterIs C.Dl (i + 1))] gs' _ _ rfl (by omega) hitem ⟨hbare, fun s'' g'' o'' S'' => hkap s'' g'' o'' S''⟩ (by simp [hlt]) (AllBare.set hb hbare) (?_ : St C.X (g.setIfInBounds gi gs') (s₁.setGen gi gs') _)
      have S5 := S4.perm (l' := (C.Lh, Is o') :: (q, PairIs (-κ) a) :: (C.Lg, NsHas b') :: (I, LIterIs C.Dl (i + 1)) :: C.l) (perm4.trans ((List.Perm.swap _ _ _).cons _))
      exact S5.wk .here (fun o2 h2 => by cases h2; exact hPo)
  · rintro s₁ ⟨h0, o', ho', S3⟩ h' hk
    have eo : o' = o := by
      have e : s.heap.get? C.Lh = some o' := ho'
      rw [ho] at e; exact (Option.some.inj e).symm
    subst eo
    have e4 : (s.setGen gi .running).gens = g.setIfInBounds gi .running := by show s.gens.setIfInBounds gi .running = _; rw [hsg]
    rw [e4] at S3
    have S4 := S3.setGen gi .finished
    rw [set_set] at S4
    have S5 := S4.all (s' := { s₁.setGen gi .finished with heap := h' }) (fun c o e => hk c o e)
    exact hend (g.setIfInBounds gi .finished) _ h0 (AllBare.set hb rfl) (S5.wk .here (fun o2 h2 => by cases h2; exact hPo))
end
end

section
theorem primeDict : (fun (_ : OpenLaw) (_ : Params → Frag) => True) PySem.Challenge.rw_ft5005_01 hd.heap_39 := by k_fill; trivial
theorem IntsAre.exists : ∀ r : List Int, ∃ vs, IntsAre vs r
  | [] => ⟨[], .nil⟩
  | n :: r => let ⟨vs, h⟩ := IntsAre.exists r; ⟨.int n 0 :: vs, .cons n 0 h⟩
theorem RowIs.ne {r : List Int} {P : Obj → Prop} (h : ∀ vs n, ¬ P { cls := .type "tuple", data := .seq vs n }) : RowIs r ≠ P := by
  intro e
  obtain ⟨vs, hv⟩ := IntsAre.exists r
  have : RowIs r { cls := .type "tuple", data := .seq vs.toArray 0 } := ⟨vs, ⟨0, rfl⟩, hv⟩
  rw [e] at this
  exact h _ _ this
theorem PairIs.ne {k : Int} {a : Addr} {P : Obj → Prop} (h : ∀ vs n, ¬ P { cls := .type "tuple", data := .seq vs n }) : PairIs k a ≠ P := by
  intro e
  have : PairIs k a { cls := .type "tuple", data := .seq (List.toArray [.int k 0, .ref a]) 0 } := ⟨0, 0, rfl⟩
  rw [e] at this
  exact h _ _ this
/-- what is no tuple -/
def NoTup (P : Obj → Prop) : Prop := ∀ vs n, ¬ P { cls := .type "tuple", data := .seq vs n }
theorem NoTup.list {vs : List Value} : NoTup (ListIs vs) := by rintro ws n ⟨m, h⟩; simp at h
theorem NoTup.dict {X : Cx} {xs : List (List Int × Addr × Value)} : NoTup (DictIs X xs) := by rintro ws n ⟨m, h⟩; simp at h
theorem NoTup.ns {b : List (Str × Value)} : NoTup (NsHas b) := by rintro ws n ⟨m, ep, h, _⟩; simp at h
theorem NoTup.cell {v : Option Value} : NoTup (CellHas v) := by rintro ws n h; simp [CellHas] at h
theorem NoTup.liter {a : Addr} {i : Nat} : NoTup (LIterIs a i) := by rintro ws n ⟨h, _⟩; simp at h
structure Sees (l l' : List Ent) : Prop where
  row : ∀ b r, (b, RowIs r) ∈ l → (b, RowIs r) ∈ l'
  pair : ∀ b k a, (b, PairIs k a) ∈ l → (b, PairIs k a) ∈ l'
theorem Sees.refl (l : List Ent) : Sees l l := ⟨fun _ _ h => h, fun _ _ _ h => h⟩
theorem Sees.trans {a b c : List Ent} (h : Sees a b) (h' : Sees b c) : Sees a c := ⟨fun _ _ x => h'.row _ _ (h.row _ _ x), fun _ _ _ x => h'.pair _ _ _ (h.pair _ _ _ x)⟩
theorem Sees.of_sub {l l' : List Ent} (h : l ⊆ l') : Sees l l' := ⟨fun _ _ x => h x, fun _ _ _ x => h x⟩
theorem Sees.cons {l l' : List Ent} (h : Sees l l') (p : Ent) : Sees l (p :: l') := ⟨fun _ _ x => .tail _ (h.row _ _ x), fun _ _ _ x => .tail _ (h.pair _ _ _ x)⟩
theorem Sees.drop {l l' : List Ent} {a : Addr} {P : Obj → Prop} (hP : NoTup P) (h : Sees l l') : Sees ((a, P) :: l) l' := by
  refine ⟨fun b r x => ?_, fun b k c x => ?_⟩
  · rcases List.mem_cons.mp x with e | x
    · exact absurd (Prod.mk.inj e).2 (RowIs.ne hP)
    · exact h.row _ _ x
  · rcases List.mem_cons.mp x with e | x
    · exact absurd (Prod.mk.inj e).2 (PairIs.ne hP)
    · exact h.pair _ _ _ x
theorem Sees.upd {l l' : List Ent} {a : Addr} {P P' : Obj → Prop} (hP : NoTup P) (U : UpdE a P P' l l') : Sees l l' := by
  obtain ⟨x, y, rfl, rfl⟩ := U.split
  refine ⟨fun b r h => ?_, fun b k c h => ?_⟩
  · rcases List.mem_append.mp h with h | h
    · exact List.mem_append_left _ h
    · rcases List.mem_cons.mp h with e | h
      · exact absurd (Prod.mk.inj e).2 (RowIs.ne hP)
      · exact List.mem_append_right _ (.tail _ h)
  · rcases List.mem_append.mp h with h | h
    · exact List.mem_append_left _ h
    · rcases List.mem_cons.mp h with e | h
      · exact absurd (Prod.mk.inj e).2 (PairIs.ne hP)
      · exact List.mem_append_right _ (.tail _ h)
theorem RowV.sees {D : Dag} {l l' : List Ent} (h : Sees l l') {v : Value} {k : Nat} (x : RowV D l v k) : RowV D l' v k := let ⟨a, e, hk, m⟩ := x; ⟨a, e, hk, h.row _ _ m⟩
theorem PairV.sees {D : Dag} {f : Int → Int} {l l' : List Ent} (h : Sees l l') {v : Value} {k : Nat} (x : PairV D f l v k) : PairV D f l' v k := let ⟨p, a, e, hk, m, m'⟩ := x; ⟨p, a, e, hk, h.pair _ _ _ m, h.row _ _ m'⟩
theorem RowsAre.sees {l l' : List Ent} (h : Sees l l') {vs : List Value} {rs : List (List Int)} (x : RowsAre l vs rs) : RowsAre l' vs rs := x.mono fun a r m => h.row _ _ m

structure Dag.Ok (D : Dag) : Prop where
  small : D.N ≤ 24
  inj : ∀ i j, i < D.N → j < D.N → D.row i = D.row j → i = j
abbrev Xs := List (List Int × Addr × Value)
structure DFl (D : Dag) (l : List Ent) (xs : Xs) (val : Nat → Option Int) : Prop where
  keys : ∀ x ∈ xs, (x.2.1, RowIs x.1) ∈ l
  nd : (xs.map (·.1)).Nodup
  dom : ∀ x ∈ xs, ∃ k, k < D.N ∧ x.1 = D.row k
  at_ : ∀ k, k < D.N → match val k with | none => atKey xs (D.row k) = none | some i => ∃ a t, atKey xs (D.row k) = some (a, .int i t)
theorem DFl.sees {D : Dag} {l l' : List Ent} (h : Sees l l') {xs : Xs} {val : Nat → Option Int} (x : DFl D l xs val) : DFl D l' xs val := ⟨fun y hy => h.row _ _ (x.keys y hy), x.nd, x.dom, x.at_⟩
theorem nodup_len {α : Type} [DecidableEq α] : ∀ (l l' : List α), l.Nodup → l ⊆ l' → l.length ≤ l'.length
  | [], _, _, _ => Nat.zero_le _
  | a :: l, l', hn, hs => by
    rw [List.nodup_cons] at hn
    have hm : a ∈ l' := hs (.head _)
    have := nodup_len l (l'.erase a) hn.2 (fun b hb => by
      have : b ≠ a := fun e => hn.1 (e ▸ hb)
      exact (List.mem_erase_of_ne this).mpr (hs (.tail _ hb)))
    rw [List.length_erase_of_mem hm] at this
    have : 0 < l'.length := List.length_pos_of_mem hm
    simp only [List.length_cons]; omega
theorem DFl.len {D : Dag} {l : List Ent} {xs : Xs} {val : Nat → Option Int} (h : DFl D l xs val) : xs.length ≤ D.N := by
  have := nodup_len (xs.map (·.1)) ((List.range D.N).map D.row) h.nd (fun r hr => by
    obtain ⟨x, hx, rfl⟩ := List.mem_map.mp hr
    obtain ⟨k, hk, e⟩ := h.dom x hx
    exact List.mem_map.mpr ⟨k, List.mem_range.mpr hk, e.symm⟩)
  simpa using this
theorem DFl.nil (D : Dag) (l : List Ent) : DFl D l [] (fun _ => none) := ⟨fun _ h => (nomatch h), List.nodup_nil, fun _ h => (nomatch h), fun _ _ => rfl⟩

theorem atKey_cons {x : List Int × Addr × Value} {r : Xs} {k : List Int} : atKey (x :: r) k = if x.1 = k then some x.2 else atKey r k := by
  unfold atKey
  by_cases h : x.1 = k
  · simp [h]
  · simp [h]
theorem atKey_map {k : List Int} {v : Value} (j : List Int) : ∀ xs : Xs, atKey (xs.map (putAt k v)) j = if j = k then (atKey xs k).map (fun p => (p.1, v)) else atKey xs j
  | [] => by simp [atKey]
  | x :: r => by
    rw [List.map_cons, atKey_cons, atKey_cons, atKey_cons, atKey_map j r]
    have e1 : (putAt k v x).1 = x.1 := by unfold putAt; split <;> rfl
    have e2 : (putAt k v x).2 = if x.1 = k then (x.2.1, v) else x.2 := by unfold putAt; split <;> rfl
    rw [e1, e2]
    by_cases hx : x.1 = k
    · by_cases hj : j = k
      · have : x.1 = j := hx.trans hj.symm
        simp [hx, hj]
      · have : ¬ x.1 = j := fun e => hj (e.symm.trans hx)
        simp [this, hj]
    · by_cases hj : j = k
      · subst hj; simp [hx]
      · by_cases hxj : x.1 = j
        · subst hxj; simp [hx]
        · simp [hxj, hj]
theorem atKey_append {j : List Int} {y : List Int × Addr × Value} : ∀ xs : Xs, atKey (xs ++ [y]) j = match atKey xs j with | some p => some p | none => if y.1 = j then some y.2 else none
  | [] => by rw [List.nil_append, atKey_cons]; rfl
  | x :: r => by
    rw [List.cons_append, atKey_cons, atKey_cons, atKey_append r]
    by_cases h : x.1 = j <;> simp [h]
theorem atKey_stored {xs : Xs} {k j : List Int} {a : Addr} {v : Value} : atKey (storedH xs k a v) j = if j = k then some ((match atKey xs k with | some p => p.1 | none => a), v) else atKey xs j := by
  unfold storedH
  cases h : atKey xs k with
  | some p =>
    simp only [Option.isSome_some, if_true]
    rw [atKey_map, h, Option.map_some]
  | none =>
    simp only [Option.isSome_none, Bool.false_eq_true, if_false]
    rw [atKey_append]
    by_cases hj : j = k
    · subst hj; simp [h]
    · have : ¬ k = j := fun e => hj e.symm
      rw [if_neg hj]
      cases atKey xs j with
      | none => simp [this]
      | some p => rfl
theorem stored_map {xs : Xs} {k : List Int} {a : Addr} {v : Value} : (storedH xs k a v).map (·.1) = if (atKey xs k).isSome then xs.map (·.1) else xs.map (·.1) ++ [k] := by
  unfold storedH
  split
  · simp only [List.map_map]
    congr 1
    funext x
    simp only [Function.comp, putAt]
    split <;> rfl
  · simp
theorem stored_mem {xs : Xs} {k : List Int} {a : Addr} {v : Value} {y : List Int × Addr × Value} (h : y ∈ storedH xs k a v) : (y.1 = k ∧ y.2.1 = a) ∨ ∃ x ∈ xs, y.1 = x.1 ∧ y.2.1 = x.2.1 := by
  unfold storedH at h
  split at h
  · obtain ⟨x, hx, rfl⟩ := List.mem_map.mp h
    refine .inr ⟨x, hx, ?_⟩
    unfold putAt
    split <;> exact ⟨rfl, rfl⟩
  · rcases List.mem_append.mp h with h | h
    · exact .inr ⟨y, h, rfl, rfl⟩
    · rcases List.mem_singleton.mp h with rfl; exact .inl ⟨rfl, rfl⟩
def setV (val : Nat → Option Int) (k : Nat) (i : Int) : Nat → Option Int := fun j => if j = k then some i else val j
theorem DFl.stored {D : Dag} (O : D.Ok) {l : List Ent} {xs : Xs} {val : Nat → Option Int} (h : DFl D l xs val) {k : Nat} {a : Addr} {i : Int} {t : Tok} (hk : k < D.N) (ha : (a, RowIs (D.row k)) ∈ l) :
    DFl D l (storedH xs (D.row k) a (.int i t)) (setV val k i) := by
  refine ⟨fun y hy => ?_, ?_, fun y hy => ?_, fun j hj => ?_⟩
  · rcases stored_mem hy with ⟨e1, e2⟩ | ⟨x, hx, e1, e2⟩
    · rw [e1, e2]; exact ha
    · rw [e1, e2]; exact h.keys x hx
  · rw [stored_map]
    split
    · exact h.nd
    · rename_i hn
      rw [List.nodup_append]
      refine ⟨h.nd, by simp, fun r hr q hq => ?_⟩
      rcases List.mem_singleton.mp hq with rfl
      intro e
      subst e
      obtain ⟨x, hx, e⟩ := List.mem_map.mp hr
      apply hn
      unfold atKey
      rw [Option.isSome_map, List.find?_isSome]
      exact ⟨x, hx, by simpa using e⟩
  · rcases stored_mem hy with ⟨e1, e2⟩ | ⟨x, hx, e1, e2⟩
    · exact ⟨k, hk, e1⟩
    · obtain ⟨j, hj, e⟩ := h.dom x hx; exact ⟨j, hj, e1.trans e⟩
  · rw [atKey_stored]
    unfold setV
    by_cases e : j = k
    · subst e; simp only [if_true]; exact ⟨_, _, rfl⟩
    · have : ¬ D.row j = D.row k := fun q => e (O.inj _ _ hj hk q)
      rw [if_neg e, if_neg this]; exact h.at_ j hj
section
variable {X : Cx} {g : Array GenState} {s : Shared} {l l' : List Ent} {A : Around} {E : Value → Shared → Prop} {env : Env}
theorem ints_items {K : KeyKind Pg X.w Int} (hK : ∀ n t, K.is n (.int n t) = true) : ∀ {vs : List Value} {r : List Int}, IntsAre vs r → ItemsAre K r vs
  | _, _, .nil => .nil
  | _, _, .cons n t h => .cons (hK n t) (ints_items hK h)
theorem St.rowKey (S : St X g s l) {a : Addr} {r : List Int} (h : (a, RowIs r) ∈ l) : (tupleKind (intKind Pg X.w)).is s.heap r a := by
  obtain ⟨o, ho, vs, ⟨n, rfl⟩, hi⟩ := S.mem h
  exact ⟨_, _, _, ho, rfl, rfl, by simpa using ints_items (fun n t => by simp [intKind, Value.isInt]) hi⟩
theorem St.dict {D : Dag} (S : St X g s l) {d : Addr} {xs : Xs} {val : Nat → Option Int} (h : (d, DictIs X xs) ∈ l) (F : DFl D l xs val) : s.heap.DictOfH (tupleKind (intKind Pg X.w)) d xs := by
  obtain ⟨o, ho, ep, rfl⟩ := S.mem h
  exact ⟨_, _, _, ho, ⟨rfl, rfl, rfl⟩, rfl, by simp, fun x hx => S.rowKey (F.keys x hx), F.nd⟩
theorem w_dictIn {D : Dag} {d a : Addr} {xs : Xs} {val : Nat → Option Int} {k : Nat} {Q : Value → Shared → Prop} (S : St X g s l) (hm : (d, DictIs X xs) ∈ l) (hd : (d == sysModules) = false) (F : DFl D l xs val) (ha : (a, RowIs (D.row k)) ∈ l) (hk : k < D.N) (hu : A.units + 1 < cLine)
    (h : ∀ s', St X g s' l → Q (.bool (val k).isSome) s') : wpAny X.M A (compareOp .In (.ref a) (.ref d)) Q E s := by
  refine wpAny_in_heap (knd := tupleKind (intKind Pg X.w)) hu (S.rowKey ha) hd (S.dict hm F) ?_
  have e : (atKey xs (D.row k)).isSome = (val k).isSome := by
    have := F.at_ k hk
    cases hv : val k with
    | none => rw [hv] at this; rw [this]; rfl
    | some i => rw [hv] at this; obtain ⟨a, t, e⟩ := this; rw [e]; rfl
  rw [e]; exact h _ (S.tok _)
theorem w_dictItem {D : Dag} {d a : Addr} {xs : Xs} {val : Nat → Option Int} {k : Nat} {i : Int} {Q : Value → Shared → Prop} (S : St X g s l) (hm : (d, DictIs X xs) ∈ l) (F : DFl D l xs val) (ha : (a, RowIs (D.row k)) ∈ l) (hk : k < D.N) (hv : val k = some i) (hu : A.units + 1 < cLine)
    (h : ∀ s' t, St X g s' l → Q (.int i t) s') : wpAny X.M A (getItem (.ref d) (.ref a)) Q E s := by
  have := F.at_ k hk
  rw [hv] at this
  obtain ⟨p, t, e⟩ := this
  exact wpAny_getItem_heap (knd := tupleKind (intKind Pg X.w)) hu (S.rowKey ha) (S.dict hm F) e (h _ _ (S.tok _))
theorem w_dictTail {D : Dag} {value slice : Expr} {d a : Addr} {xs : Xs} {val : Nat → Option Int} {k : Nat} {i : Int} {Q : Value → Shared → Prop} (S : St X g s l) (hm : (d, DictIs X xs) ∈ l) (F : DFl D l xs val) (ha : (a, RowIs (D.row k)) ∈ l) (hk : k < D.N) (hv : val k = some i) (hu : A.units + 1 < cLine)
    (h : ∀ s' t, St X g s' l → Q (.int i t) s')
    (hs : subscripted slice false (.ref d) (.ref a) = operate [.ref d, .ref a] (getItem (.ref d) (.ref a)) := by with_unfolding_all rfl) : wpAny X.M A (subscriptTail value slice (.ref d) (.ref a)) Q E s :=
  tail_any (S.dict hm F).typeIs slot_dict_getitem.lookup (w_dictItem S hm F ha hk hv hu h) hs
theorem w_dictSet {D : Dag} (O : D.Ok) {d a : Addr} {xs : Xs} {val : Nat → Option Int} {k : Nat} {i : Int} {t : Tok} {Q : Unit → Shared → Prop} (S : St X g s ((d, DictIs X xs) :: l)) (F : DFl D l xs val) (ha : (a, RowIs (D.row k)) ∈ l) (hk : k < D.N) (hu : A.units + 1 < cLine)
    (h : ∀ s' xs', St X g s' ((d, DictIs X xs') :: l) → DFl D l xs' (setV val k i) → Q () s') : wpAny X.M A (setItem (.ref d) (.ref a) (.int i t)) Q E s := by
  refine wpAny_setItem_heap (knd := tupleKind (intKind Pg X.w)) (k := D.row k) hu (S.rowKey (.tail _ ha)) (S.dict (.head _) (F.sees ((Sees.refl l).cons _))) (fun h' hm' hs' => h _ (storedH xs (D.row k) a (.int i t)) ?_ (F.stored O hk ha)) (by have := F.len; have := O.small; rw [sizeLine_eq]; omega)
  obtain ⟨o, es, ep, ho, ⟨hc, hdct, hsl⟩, hdat, hes, _, _⟩ := hm'
  refine S.updB (t := s.toks + (tupleKind (intKind Pg X.w)).draws (D.row k)) .here hs' ho ⟨ep, ?_⟩
  obtain ⟨c1, c2, c3, c4⟩ := o
  simp only at hc hdct hsl hdat
  subst hc hdct hsl hdat
  rw [← hes]
theorem w_newDict {pos : Pos} {f : Ent} {Q : Value → Shared → Prop} (S : St X g s (f :: l)) (h : ∀ d s', (d == sysModules) = false → St X g s' (f :: (d, DictIs X []) :: l) → Q (.ref d) s') : wpAny X.M A (eval (.Dict [] [] pos) env) Q E s := by
  have hlt : 80 < s.heap.objs.size := by
    obtain ⟨⟨_, _, _, _, e, _⟩, _⟩ := makes_of (M := X.M) S.K (wl_makes _)
    exact Heap.lt_size e
  rw [eval_Dict_empty]
  refine wpAny_bind (wpAny_standAt ?_)
  refine wpAny_newObj_type (h _ _ ?_ (S.push2 (o := { cls := .type "dict", data := .dict #[] }) ⟨_, rfl⟩)) (by size_fits)
  show (s.heap.objs.size == 1) = false
  simp; omega
end
end

section
theorem primeNest : (fun (_ : OpenLaw) (_ : Params → Frag) => True) PySem.Challenge.rw_ft5005_01 hd.heap_39 := by k_fill; trivial
def CodeIs (q : Str) (o : Obj) : Prop := ∃ vs t, o.data = .fields vs ∧ vs[1]? = some (.str q t)
structure TabOk (l : List Ent) (ps : Array Value) (pq : List (Pos × Str)) : Prop where
  tri : TriplesOk ps.toList
  at_ : ∀ q ∈ pq, codeAmong q.1 ps.toList = none ∨ ∃ c, codeAmong q.1 ps.toList = some (.ref c) ∧ (c, CodeIs q.2) ∈ l
theorem TabOk.nil {l : List Ent} {pq : List (Pos × Str)} : TabOk l #[] pq := ⟨trivial, fun _ _ => .inl rfl⟩
theorem TabOk.mono {l l' : List Ent} {ps : Array Value} {pq : List (Pos × Str)} (h : TabOk l ps pq) (hl : ∀ c q, (c, CodeIs q) ∈ l → (c, CodeIs q) ∈ l') : TabOk l' ps pq :=
  ⟨h.tri, fun q hq => (h.at_ q hq).imp id fun ⟨c, e, m⟩ => ⟨c, e, hl _ _ m⟩⟩
theorem triples_snoc {a b : Int} {t u : Tok} {c : Value} : ∀ l : List Value, TriplesOk l → TriplesOk (l ++ [.int a t, .int b u, c]) := by
  intro l h
  fun_induction TriplesOk l with
  | case1 => trivial
  | case2 _ _ _ _ _ r ih => exact ih h
  | case3 _ h1 h2 => exact h.elim
theorem among_other {pos : Pos} {a b : Int} {c : Value} (hne : ((a == (pos.line : Int)) && (b == (pos.col : Int))) = false) : ∀ l : List Value, TriplesOk l → codeAmong pos (l ++ [rawInt a, rawInt b, c]) = codeAmong pos l := by
  intro l h
  fun_induction TriplesOk l with
  | case1 => simp only [List.nil_append, codeAmong, rawInt]; rw [hne]; rfl
  | case2 _ _ _ _ _ r ih =>
    simp only [List.cons_append, codeAmong]
    split
    · rfl
    · exact ih h
  | case3 _ h1 h2 => exact h.elim
section
variable {X : Cx} {g : Array GenState} {s : Shared} {l l' : List Ent} {A : Around} {E : Value → Shared → Prop} {env : Env}
theorem St.bAt (S : St X g s l) {P : Addr} {p : Obj → Prop} (hP : (P, p) ∈ l) : s.heap.BuiltinsAt X.mg P := by
  obtain ⟨bm, ob, b1, b2, b3, b4, b5, b6⟩ := X.bmain
  have hn := S.new _ hP
  refine ⟨bm, ob, b1, b2, fun q => ?_, fun q => ?_, S.keep _ _ b3, b4, b5, b6⟩
  · obtain ⟨o, es, ep, e, hd, _⟩ := X.top.g
    rw [q, e] at b3; cases b3; rw [hd] at b6; cases b6
  · rw [q] at b3
    rw [show X.hT.get? P = none from hn] at b3; cases b3
theorem St.mgNe (S : St X g s l) {P : Addr} {p : Obj → Prop} (hP : (P, p) ∈ l) : mainGlobals ≠ P := by
  intro q
  obtain ⟨o, es, ep, e, hd, _⟩ := X.top.g
  have hn := S.new _ hP
  rw [q] at e
  rw [show X.hT.get? P = none from hn] at e; cases e

theorem w_nestFn {name qual : Str} {params : Arguments} {body : List Stmt} {scope : Scope} {c P : Addr} {ps : Array Value} {pos : Pos} {firstLine : Nat} {clos : List (Str × Addr)} {pq : List (Pos × Str)} {f0 : Ent} {l₀ : List Ent} {Q : Value → Shared → Prop}
    (S : St X g s (f0 :: (P, Is (tabObj ps)) :: l)) (C : CodeHd X.hT c P) (T : TabOk l₀ ps pq) (hq : (pos, qual) ∈ pq) (hu : ∀ q ∈ pq, (((pos.line : Int) == (q.1.line : Int)) && ((pos.col : Int) == (q.1.col : Int))) = true → q = (pos, qual))
    (hcl : closureFor scope env = pure clos) (hge0 : env.globals = mainGlobals) (hcode : env.code = .ref c)
    (h : ∀ f c' doc ctv ps' new s', St X g s' (f0 :: (P, Is (tabObj ps')) :: (f, Is (fnMade name qual params body scope clos doc ((X.mg "__name__").getD .none) c' ctv)) :: (new ++ l)) → TabOk (new ++ l₀) ps' pq → (c', CodeIs qual) ∈ new ++ l₀ → Q (.ref f) s') :
    wpAny X.M A (makeFunction name qual params (.stmts body) scope env [] [] [] pos firstLine) Q E s := by
  obtain ⟨oP, hP, hPe⟩ := S.mem (a := P) (.tail _ (.head _))
  cases hPe
  have hm : (P, Is (tabObj ps)) ∈ f0 :: (P, Is (tabObj ps)) :: l := .tail _ (.head _)
  rcases T.at_ _ hq with hnone | ⟨c', hsome, hc'⟩
  · refine makeFunction_K (mg := X.mg) hcl hge0 (X.top.g.keeps S.keep) hcode (C.keeps S.keep) hP T.tri hnone (S.mgNe hm) (S.bAt hm) fun c' ctv doc h' tk hx hge hlt hrec htb => ?_
    obtain ⟨c₂, oc, vs, t, e2, hoc, hdc, hvc⟩ := hrec
    cases e2
    have hlt0 : ∀ p ∈ f0 :: (P, Is (tabObj ps)) :: l, p.1 < s.heap.objs.size := fun p hp => S.lt hp
    -- the table is written over, the code put in
    have S1 : St X g { s with heap := h', toks := tk } (f0 :: (P, Is (tabObj (ps ++ #[rawInt pos.line, rawInt pos.col, .ref c']))) :: l) :=
      S.upd (s' := { s with heap := h', toks := tk }) (.there .here) (fun b o hb e => hx b o hb e) htb rfl
    have S2 : St X g { s with heap := h', toks := tk } ((c', CodeIs qual) :: f0 :: (P, Is (tabObj (ps ++ #[rawInt pos.line, rawInt pos.col, .ref c']))) :: l) := by
      refine ⟨S1.keep, fun p hp => ?_, fun p hp => ?_, ?_, S1.os, S1.gens, S1.dr⟩
      · rcases List.mem_cons.mp hp with rfl | hp
        · exact ⟨oc, hoc, vs, t, hdc, hvc⟩
        · exact S1.get p hp
      · rcases List.mem_cons.mp hp with rfl | hp
        · cases q : X.hT.get? c' with
          | none => rfl
          | some o => exact absurd (Heap.lt_size (S.keep _ _ q)) (Nat.not_lt.mpr hge)
        · exact S1.new p hp
      · rw [List.map_cons, List.nodup_cons]
        refine ⟨fun hmem => ?_, S1.nd⟩
        obtain ⟨p, hp, e⟩ := List.mem_map.mp hmem
        have : p.1 < s.heap.objs.size := by
          rcases List.mem_cons.mp hp with rfl | hp
          · exact hlt0 _ (.head _)
          · rcases List.mem_cons.mp hp with rfl | hp
            · exact hlt0 (P, Is (tabObj ps)) (.tail _ (.head _))
            · exact hlt0 p (.tail _ (.tail _ hp))
        rw [e] at this
        exact absurd this (Nat.not_lt.mpr hge)
    have S3 := (S2.push (o := fnMade name qual params body scope clos doc ((X.mg "__name__").getD .none) c' ctv) (P := Is (fnMade name qual params body scope clos doc ((X.mg "__name__").getD .none) c' ctv)) rfl).tok tk
    have S4 := S3.perm (l' := f0 :: (P, Is (tabObj (ps ++ #[rawInt pos.line, rawInt pos.col, .ref c']))) :: (h'.objs.size, Is (fnMade name qual params body scope clos doc ((X.mg "__name__").getD .none) c' ctv)) :: ([(c', CodeIs qual)] ++ l))
      ((List.perm_append_comm (l₁ := [_, _]) (l₂ := [_, _])).append_right l)
    exact h _ _ _ _ _ [(c', CodeIs qual)] _ S4 ⟨by simpa [rawInt] using triples_snoc _ T.tri, fun q hqm => by
      by_cases e : (((pos.line : Int) == (q.1.line : Int)) && ((pos.col : Int) == (q.1.col : Int))) = true
      · have := hu q hqm e
        subst this
        exact .inr ⟨c', by simpa using codeAmong_snoc _ T.tri hnone, .head _⟩
      · have := among_other (pos := q.1) (c := .ref c') (by simpa using e) _ T.tri
        rcases T.at_ q hqm with h1 | ⟨c, h1, h2⟩
        · exact .inl (by simpa [h1] using this)
        · exact .inr ⟨c, by simpa [h1] using this, .tail _ h2⟩⟩ (.head _)
  · refine makeFunction_hit (mg := X.mg) hcl hge0 (X.top.g.keeps S.keep) hcode (C.keeps S.keep) hP T.tri hsome (S.bAt hm) fun ctv doc h' tk hk hsz => ?_
    have S1 : St X g { s with heap := h', toks := tk } (f0 :: (P, Is (tabObj ps)) :: l) := S.all (s' := { s with heap := h', toks := tk }) hk
    have S2 := (S1.push (o := fnMade name qual params body scope clos doc ((X.mg "__name__").getD .none) c' ctv) (P := Is (fnMade name qual params body scope clos doc ((X.mg "__name__").getD .none) c' ctv)) rfl).tok tk
    exact h _ c' doc ctv ps [] _ (S2.perm perm3.symm) T hc'
theorem w_lamFn {name qual : Str} {params : Arguments} {body : Expr} {scope : Scope} {c P : Addr} {ps : Array Value} {pos : Pos} {firstLine : Nat} {clos : List (Str × Addr)} {pq : List (Pos × Str)} {f0 : Ent} {l₀ : List Ent} {Q : Value → Shared → Prop}
    (S : St X g s (f0 :: (P, Is (tabObj ps)) :: l)) (C : CodeHd X.hT c P) (T : TabOk l₀ ps pq) (hq : (pos, qual) ∈ pq) (hu : ∀ q ∈ pq, (((pos.line : Int) == (q.1.line : Int)) && ((pos.col : Int) == (q.1.col : Int))) = true → q = (pos, qual))
    (hcl : closureFor scope env = pure clos) (hge0 : env.globals = mainGlobals) (hcode : env.code = .ref c)
    (h : ∀ f c' ctv ps' new s', St X g s' (f0 :: (P, Is (tabObj ps')) :: (f, Is (kla_obj name qual params body scope clos ((X.mg "__name__").getD .none) c' ctv)) :: (new ++ l)) → TabOk (new ++ l₀) ps' pq → (c', CodeIs qual) ∈ new ++ l₀ → Q (.ref f) s') :
    wpAny X.M A (makeFunction name qual params (.expr body) scope env [] [] [] pos firstLine) Q E s := by
  obtain ⟨oP, hP, hPe⟩ := S.mem (a := P) (.tail _ (.head _))
  cases hPe
  have hm : (P, Is (tabObj ps)) ∈ f0 :: (P, Is (tabObj ps)) :: l := .tail _ (.head _)
  rcases T.at_ _ hq with hnone | ⟨c', hsome, hc'⟩
  · refine kla_makeFunction (mg := X.mg) hcl hge0 (X.top.g.keeps S.keep) hcode (C.keeps S.keep) hP T.tri hnone (S.mgNe hm) (S.bAt hm) fun c' ctv h' tk hx hge hlt hrec htb => ?_
    obtain ⟨c₂, oc, vs, t, e2, hoc, hdc, hvc⟩ := hrec
    cases e2
    have hlt0 : ∀ p ∈ f0 :: (P, Is (tabObj ps)) :: l, p.1 < s.heap.objs.size := fun p hp => S.lt hp
    -- the table is written over, the code put in
    have S1 : St X g { s with heap := h', toks := tk } (f0 :: (P, Is (tabObj (ps ++ #[rawInt pos.line, rawInt pos.col, .ref c']))) :: l) :=
      S.upd (s' := { s with heap := h', toks := tk }) (.there .here) (fun b o hb e => hx b o hb e) htb rfl
    have S2 : St X g { s with heap := h', toks := tk } ((c', CodeIs qual) :: f0 :: (P, Is (tabObj (ps ++ #[rawInt pos.line, rawInt pos.col, .ref c']))) :: l) := by
      refine ⟨S1.keep, fun p hp => ?_, fun p hp => ?_, ?_, S1.os, S1.gens, S1.dr⟩
      · rcases List.mem_cons.mp hp with rfl | hp
        · exact ⟨oc, hoc, vs, t, hdc, hvc⟩
        · exact S1.get p hp
      · rcases List.mem_cons.mp hp with rfl | hp
        · cases q : X.hT.get? c' with
          | none => rfl
          | some o => exact absurd (Heap.lt_size (S.keep _ _ q)) (Nat.not_lt.mpr hge)
        · exact S1.new p hp
      · rw [List.map_cons, List.nodup_cons]
        refine ⟨fun hmem => ?_, S1.nd⟩
        obtain ⟨p, hp, e⟩ := List.mem_map.mp hmem
        have : p.1 < s.heap.objs.size := by
          rcases List.mem_cons.mp hp with rfl | hp
          · exact hlt0 _ (.head _)
          · rcases List.mem_cons.mp hp with rfl | hp
            · exact hlt0 (P, Is (tabObj ps)) (.tail _ (.head _))
            · exact hlt0 p (.tail _ (.tail _ hp))
        rw [e] at this
        exact absurd this (Nat.not_lt.mpr hge)
    have S3 := (S2.push (o := kla_obj name qual params body scope clos ((X.mg "__name__").getD .none) c' ctv) (P := Is (kla_obj name qual params body scope clos ((X.mg "__name__").getD .none) c' ctv)) rfl).tok tk
    have S4 := S3.perm (l' := f0 :: (P, Is (tabObj (ps ++ #[rawInt pos.line, rawInt pos.col, .ref c']))) :: (h'.objs.size, Is (kla_obj name qual params body scope clos ((X.mg "__name__").getD .none) c' ctv)) :: ([(c', CodeIs qual)] ++ l))
      ((List.perm_append_comm (l₁ := [_, _]) (l₂ := [_, _])).append_right l)
    exact h _ _ _ _ [(c', CodeIs qual)] _ S4 ⟨by simpa [rawInt] using triples_snoc _ T.tri, fun q hqm => by
      by_cases e : (((pos.line : Int) == (q.1.line : Int)) && ((pos.col : Int) == (q.1.col : Int))) = true
      · have := hu q hqm e
        subst this
        exact .inr ⟨c', by simpa using codeAmong_snoc _ T.tri hnone, .head _⟩
      · have := among_other (pos := q.1) (c := .ref c') (by simpa using e) _ T.tri
        rcases T.at_ q hqm with h1 | ⟨c, h1, h2⟩
        · exact .inl (by simpa [h1] using this)
        · exact .inr ⟨c, by simpa [h1] using this, .tail _ h2⟩⟩ (.head _)
  · refine kla_makeFunctionHit (mg := X.mg) hcl hge0 (X.top.g.keeps S.keep) hcode (C.keeps S.keep) hP T.tri hsome (S.bAt hm) fun ctv h' tk hk hsz => ?_
    have S1 : St X g { s with heap := h', toks := tk } (f0 :: (P, Is (tabObj ps)) :: l) := S.all (s' := { s with heap := h', toks := tk }) hk
    have S2 := (S1.push (o := kla_obj name qual params body scope clos ((X.mg "__name__").getD .none) c' ctv) (P := Is (kla_obj name qual params body scope clos ((X.mg "__name__").getD .none) c' ctv)) rfl).tok tk
    exact h _ c' ctv ps [] _ (S2.perm perm3.symm) T hc'
end
end

section
theorem primeHas : (fun (_ : OpenLaw) (_ : Params → Frag) => True) PySem.Challenge.rw_ft5005_01 hd.heap_39 := by k_fill; trivial
theorem and_nat (a b : Nat) : Builtin.bitAnd (a : Int) (b : Int) = ((a &&& b : Nat) : Int) := by
  unfold Builtin.bitAnd
  have h1 : decide (0 ≤ (a : Int)) = true := by simp
  have h2 : decide (0 ≤ (b : Int)) = true := by simp
  rw [h1, h2]; rfl
theorem or_nat (a b : Nat) : Builtin.bitOr (a : Int) (b : Int) = ((a ||| b : Nat) : Int) := by
  unfold Builtin.bitOr
  have e : ∀ n : Nat, Builtin.bitNot (n : Int) = -(n : Int) - 1 := fun n => by unfold Builtin.bitNot; omega
  have e2 : ∀ n : Nat, Builtin.bitNot (-(n : Int) - 1) = (n : Int) := fun n => by unfold Builtin.bitNot; omega
  rw [e, e]
  unfold Builtin.bitAnd
  have h1 : decide (0 ≤ -(a : Int) - 1) = false := by simp; omega
  have h2 : decide (0 ≤ -(b : Int) - 1) = false := by simp; omega
  rw [h1, h2]
  simp only [e2, Int.toNat_natCast]
  rw [e, e2]
def valOf (fl : Nat → Nat) : Nat → Option Int := fun k => if fl k = 0 then none else some (fl k : Int)
def hasC (fl : Nat → Nat) (hs : List Nat) : Bool := hs.any fun k => decide (fl k ≠ 0) && decide (fl k &&& 4 ≠ 4)
section
variable {X : Cx} {g : Array GenState} {s : Shared} {l l' : List Ent} {A : Around} {E : Value → Shared → Prop} {env : Env}
theorem St.kpMade (S : St X g s l) {f c' : Addr} {name qual : Str} {params : Arguments} {body : List Stmt} {scope : Scope} {clos : List (Str × Addr)} {doc pm ctv : Value} (hf : (f, Is (fnMade name qual params body scope clos doc pm c' ctv)) ∈ l) : Kp X (.ref f) s.heap := by
  obtain ⟨o, ho, hoe⟩ := S.mem hf
  cases hoe
  exact kp_fn ho rfl
theorem St.kpLam (S : St X g s l) {f c' : Addr} {name qual : Str} {params : Arguments} {body : Expr} {scope : Scope} {clos : List (Str × Addr)} {pm ctv : Value} (hf : (f, Is (kla_obj name qual params body scope clos pm c' ctv)) ∈ l) : Kp X (.ref f) s.heap := by
  obtain ⟨o, ho, hoe⟩ := S.mem hf
  cases hoe
  exact kp_fn ho rfl
theorem w_made {k : Nat} {f c' : Addr} {name qual : Str} {params : Arguments} {body : List Stmt} {scope : Scope} {clos : List (Str × Addr)} {doc pm ctv : Value} {pos : List Value} {kw : List (Str × Value)} {binds : List (Str × Value)} {Q : Value → Shared → Prop} (S : St X g s l) (R : Rm A k)
    (hf : (f, Is (fnMade name qual params body scope clos doc pm c' ctv)) ∈ l) (hc : (c', CodeIs qual) ∈ l) (hbind : BindsTo s (fnX name qual params body scope clos .none .none doc pm none (.ref c') ctv) ⟨pos, kw⟩ binds)
    (h : ∀ L s', St X g s' ((L, NsHas binds.reverse) :: l) → wpAny X.M (A.deeper (envX qual scope L f (.ref c') clos)) (execs body (envX qual scope L f (.ref c') clos)) (fun fl s'' => Q (retOf fl) s'') NoE s')
    (hloc : ∀ y ∈ binds, scope.names.lookup y.1 = some .local) (hcell : ∀ x ∈ scope.names, x.2 ≠ .cell) (hco : scope.isCoroutine = false) (hgen : scope.isGenerator = false) (hk : scope.kind = .function) :
    wpAny X.M A (call (.ref f) pos kw) Q E s := by
  obtain ⟨o, ho, hoe⟩ := S.mem hf
  cases hoe
  obtain ⟨oc, hoc, vs, t, hd, hv⟩ := S.mem hc
  exact w_fn S R ho rfl rfl ⟨c', oc, vs, t, rfl, hoc, hd, hv⟩ hbind h hloc hcell hco hgen hk
theorem w_lamMade {k : Nat} {f c' : Addr} {name qual : Str} {params : Arguments} {body : Expr} {scope : Scope} {clos : List (Str × Addr)} {pm ctv : Value} {pos : List Value} {kw : List (Str × Value)} {binds : List (Str × Value)} {Q : Value → Shared → Prop} (S : St X g s l) (R : Rm A k)
    (hf : (f, Is (kla_obj name qual params body scope clos pm c' ctv)) ∈ l) (hc : (c', CodeIs qual) ∈ l) (hbind : bindArgs (kla_fn name qual params body scope clos pm (.ref c') ctv) ⟨pos, kw⟩ = pure binds)
    (h : ∀ L s', St X g s' ((L, NsHas binds.reverse) :: l) → wpAny X.M (A.deeper (envX qual scope L f (.ref c') clos)) (eval body (envX qual scope L f (.ref c') clos)) Q NoE s')
    (hloc : ∀ y ∈ binds, scope.names.lookup y.1 = some .local) (hcell : ∀ x ∈ scope.names, x.2 ≠ .cell) (hco : scope.isCoroutine = false) (hgen : scope.isGenerator = false) (hk : scope.kind = .function) :
    wpAny X.M A (call (.ref f) pos kw) Q E s := by
  obtain ⟨o, ho, hoe⟩ := S.mem hf
  cases hoe
  obtain ⟨oc, hoc, vs, t, hd, hv⟩ := S.mem hc
  refine wpAny_call (kla_callFunE R.d ho rfl hco hgen rfl ⟨c', oc, vs, t, rfl, hoc, hd, hv⟩ ?_)
  rw [hbind]
  refine wpAny_pure (wpAny_newFunctionEnv hcell hloc (fun h₁ hns hsb => ⟨(X.top.nolimit.keeps S.keep).fresh _ hsb, ?_⟩) hk)
  have hk₁ : ∀ b o, s.heap.get? b = some o → h₁.get? b = some o := fun b o e => hsb.extBut b o (Nat.ne_of_lt (Heap.lt_size e)) (Heap.get?_push_of_some _ e)
  obtain ⟨o, ho', hP⟩ := NsHas.of_ns (b := binds.reverse) hns (fun x v e => e)
  have S1 : St X g { s with heap := h₁, toks := s.toks + binds.length } ((s.heap.objs.size, NsHas binds.reverse) :: l) :=
    S.add (s' := { s with heap := h₁, toks := s.toks + binds.length }) hk₁ (none_size (Nat.le_refl _)) ho' hP S.ne_size
  show codeAny _ _ (.expr body (envX qual scope s.heap.objs.size f (.ref c') clos)) _ _
  exact kla_codeExpr (wpAny_mono (h _ _ S1) (fun v s' hl => hl) fun _ _ y => y.elim)

/-- a for over pairs, from its turn -/
theorem w_For2 {Q : Flow → Shared → Prop} {x : Expr} {pos : Pos} {iter : Expr} {body : List Stmt}
    (h : wpAny X.M A (eval iter env) (fun v s₁ => wpAny X.M A (pyIter v) (fun it s₂ => codeAny X.M A (.forLoop x it body [] env) (fun r s' => match r with | .ok f => Q f s' | .error e => False) s₂) E s₁) E s)
    (hs : ∀ x, foldedSetIterable iter env x = pure x := by intro _; rfl) : wpAny X.M A (exec (.For x iter body [] pos) env) Q E s := by
  refine wpAny_For (wpAny_mono h (fun v s₁ h₁ => wpAny_mono h₁ (fun it s₂ h₂ => codeAny_mono h₂ fun r s' hr => ?_) fun _ _ e => e) fun _ _ e => e) hs
  cases r with
  | ok f => exact hr
  | error e => exact hr.elim

theorem codeAny_forLoop2 {R : Result → Shared → Prop} {target : Expr} {it : Value} {body : List Stmt} (I : Nat → Shared → Prop)
    (turn : ∀ n s, I n s → wpAny X.M A (pyNext it) (fun r s₁ => match r with
      | none => R (.ok .next) s₁
      | some v => wpAny X.M A (letOwnedTupleGo target it v) (fun _ s₁ => wpAny X.M A (assign target env v) (fun _ s₂ => wpAny X.M A (execs body env) (fun f s₃ => match f with
          | .next | .cont => ∃ m, m < n ∧ I m s₃
          | .brk => R (.ok .next) s₃
          | .ret v => R (.ok (.ret v)) s₃) NoE s₂) NoE s₁) NoE s₁) NoE s)
    (n : Nat) (h : I n s) : codeAny X.M A (.forLoop target it body [] env) R s := by
  refine codeAny_loop' rfl I (fun n s hI => ?_) n h
  show wpAny _ _ ((forTurn target it body [] env).onRaise (fun x => do noteFrame x env; theTreesLotGoes x)) _ _ s
  refine wpAny_noted ?_
  simp only [forTurn]
  refine wpAny_bind (wpAny_standAt (wpAny_bind (wpAny_onRaise (wpAny_mono (turn n s hI) (fun r s₁ h₁ => ?_) fun _ _ h' => h'.elim))))
  cases r with
  | none => exact wpAny_pure (.inr ⟨rfl, codeAny_block (wpAny_execs_nil h₁)⟩)
  | some v =>
    refine wpAny_bind (wpAny_mono h₁ (fun _ s₁ h₁ => ?_) fun _ _ h' => h'.elim)
    refine wpAny_bind (wpAny_mono h₁ (fun _ s₂ h₂ => wpAny_bind (wpAny_mono h₂ (fun f s₃ h₃ => ?_) fun _ _ h' => h'.elim)) fun _ _ h' => h'.elim)
    cases f with
    | next => exact wpAny_pure (.inl ⟨rfl, h₃⟩)
    | cont => exact wpAny_pure (.inl ⟨rfl, h₃⟩)
    | brk => exact wpAny_pure h₃
    | ret v => exact wpAny_pure h₃
theorem letOwned_gen {Ga : Addr} {n : Nat} {k : Nat} {v : Value} {elts : List Expr} {pos : Pos} {M : Model} (ho : ∃ o, s.heap.get? Ga = some o ∧ GenIs n o) {Q : Unit → Shared → Prop} (h : Q () s) :
    wpAny M A (letOwnedTupleGo (.Tuple elts k pos) (.ref Ga) v) Q E s := by
  obtain ⟨o, ho, hc, ⟨nm, qn, hd⟩, _⟩ := ho
  unfold letOwnedTupleGo
  cases v with
  | ref a =>
    refine wpAny_bind (wpAny_load ho ?_)
    rw [hc, hd]
    exact wpAny_pure h
  | _ => exact wpAny_pure h

theorem hasC_take {fl : Nat → Nat} {hs : List Nat} {i k : Nat} (h : hs[i]? = some k) (hf : (decide (fl k ≠ 0) && decide (fl k &&& 4 ≠ 4)) = false) (ht : hasC fl (hs.take i) = false) : hasC fl (hs.take (i + 1)) = false := by
  unfold hasC at *
  rw [List.take_add_one, h, List.any_append, ht]
  simpa using hf
theorem hasC_hit {fl : Nat → Nat} {hs : List Nat} {i k : Nat} (h : hs[i]? = some k) (hf : (decide (fl k ≠ 0) && decide (fl k &&& 4 ≠ 4)) = true) : hasC fl hs = true := by
  unfold hasC
  rw [List.any_eq_true]
  exact ⟨k, List.mem_of_getElem? h, hf⟩
end
end

end Mine

namespace Mine
local macro_rules | `(tactic| walk_at "m:mem") => `(tactic| first | exact List.Mem.head _ | assumption | (refine List.Mem.tail _ ?_; walk_at "m:mem") | (refine List.mem_append_right _ ?_; walk_at "m:mem"))
local macro_rules | `(tactic| walk_at "m:glob") => `(tactic| first | exact n_len _ | exact n_range _ | exact n_sorted _ | exact n_abs _ | exact n_list _ | exact n_enumerate _ | k_is)
local macro_rules | `(tactic| walk_at "m:boot") => `(tactic| first | exact PySem.boot_len | exact PyProof.Rows.boot_range | exact PyProof.Rows.boot_sorted | exact PyProof.Rows.boot_abs | exact PyProof.Rows.boot_list | exact PyProof.Rows.boot_enumerate)
local macro_rules | `(tactic| walk_at "m:name") => `(tactic| first
  | (refine' w_local (by assumption) ?mhb ?_; (case mhb => exact rfl))
  | (refine' w_cell (by assumption) ?mhc ?mhm ?_; (case mhc => exact rfl); (case mhm => walk_at "m:mem"))
  | (refine' w_builtin (by assumption) ?mhe ?mhv ?_; (case mhe => walk_at "m:glob"); (case mhv => walk_at "m:boot"))
  | (refine' w_global (by assumption) ?mhe ?_; (case mhe => walk_at "m:glob"))
  | (refine' w_free (by assumption) ?mhc ?mhm ?_; (case mhc => exact rfl); (case mhm => walk_at "m:mem")))
local macro_rules | `(tactic| walk_at "m:kp") => `(tactic| first | exact kp_builtin | exact kp_type | exact kp_K (by assumption) (by k_is))
local macro_rules | `(tactic| walk_at "m:step") => `(tactic| first
  | with_reducible refine wpAny_items_nil ?_
  | ((with_reducible refine gd0 ?_); refine wpAny_items_cons ?_)
  | with_reducible refine wpAny_execs_nil ?_
  | with_reducible refine wpAny_execs_cons ?_
  | ((with_reducible refine gd1 ?_); walk_at "m:name")
  | ((with_reducible refine w_int (by assumption) ?_); intro _ _ _)
  | with_reducible refine wpAny_BinOp ?_
  | with_reducible refine PyProof.Rows.Subscript_ ?_
  | ((with_reducible refine gd2 ?_); refine w_Call ?_)
  | ((with_reducible refine gd3 ?_); refine wpAny_Compare1 ?_)
  | ((with_reducible refine gd4 ?_); refine wpAny_isTrue_Compare1 ?_)
  | with_reducible refine wpAny_truthy_bool ?_
  | with_reducible refine PyProof.Rows.gt_int ?_
  | with_reducible refine PyProof.Rows.lt_int ?_
  | with_reducible refine PyProof.Rows.eq_int ?_
  | with_reducible refine PyProof.Rows.ne_int ?_
  | ((with_reducible refine w_add (by assumption) ?_); intro _ _ _)
  | ((with_reducible refine w_sub (by assumption) ?_); intro _ _ _)
  | ((with_reducible refine w_and (by assumption) ?_); intro _ _ _)
  | ((with_reducible refine w_or (by assumption) ?_); intro _ _ _)
  | ((with_reducible refine w_neg (by assumption) ?_); intro _ _ _)
  | with_reducible refine wpAny_If ?_
  | ((with_reducible refine gd5 ?_); refine wpAny_Assign_Name ?_)
  | with_reducible refine wpAny_Return_some ?_
  | with_reducible refine wpAny_IfExp ?_
  | with_reducible refine wpAny_UnaryOp ?_
  | with_reducible refine wpAny_isTrue_Not ?_
  | with_reducible refine wpAny_Constant_none ?_
  | with_reducible refine wpAny_Constant_bool ?_
  | with_reducible refine wpAny_Continue ?_
  | with_reducible refine wpAny_Break ?_
  | with_reducible refine wpAny_isTrue_BoolOp ?_
  | with_reducible refine wpAny_allTrue_And_cons ?_
  | with_reducible refine wpAny_allTrue_And_nil ?_
  | with_reducible refine wpAny_allTrue_Or_cons ?_
  | with_reducible refine wpAny_allTrue_Or_nil ?_
  | ((with_reducible refine gd6 ?_); (refine w_store (by assumption) ?_); intro _ _)
  | (with_reducible refine PyProof.Rows.Tuple_ ?_)
  | (with_reducible refine PyProof.Rows.List_ ?_)
  | (with_reducible refine' And.intro ?mkp ?_; (case mkp => walk_at "m:kp"))
  | (with_reducible refine w_range1 (by assumption) ?_; intro _ _ _)
  | (with_reducible refine w_range2 (by assumption) ?_; intro _ _ _)
  | dsimp only)
local macro_rules | `(tactic| walk_at "m:glob") => `(tactic| first | exact n_heappush _ | exact n_heappop _)
local macro_rules | `(tactic| walk_at "m:step") => `(tactic| first
  | ((with_reducible refine gd7 ?_); refine wpAny_Expr ?_)
  | ((with_reducible refine gd8 ?_); refine Attribute_any_ ?_)
  | ((with_reducible refine gd9 ?_); (refine w_getPq (by assumption) (by walk_at "m:mem") (by walk_at "m:mem") ?_); intro _ _)
  | ((with_reducible refine gd10 ?_); refine Assign_Tuple ?_)
  | ((with_reducible refine gd11 ?_); refine plainObj_wpAny_Assign_Attribute ?_))
local macro_rules | `(tactic| walk_at "m:step") => `(tactic| first
  | ((with_reducible refine gd12 ?_); refine wpAny_isTrue_value ?_)
  | ((with_reducible refine gd13 ?_); refine wpAny_isTrue_value ?_))
local macro_rules | `(tactic| walk_at "m:kp") => `(tactic| first | exact kp_K (by assumption) (by k_is) | exact St.kpMade (by assumption) (by walk_at "m:mem") | exact St.kpLam (by assumption) (by walk_at "m:mem"))
local macro_rules | `(tactic| walk_at "m:wl") => `(tactic| first
  | refine w_methodWL (by assumption) (by walk_at "m:mem") (by walk_at "m:mem") (wl_find_iter _) (wl_fn_iter _) (wl_get_iter _) (by intro t; rfl) ?_
  | refine w_methodWL (by assumption) (by walk_at "m:mem") (by walk_at "m:mem") (wl_find_add _) (wl_fn_add _) (wl_get_add _) (by intro t; rfl) ?_
  | refine w_methodWL (by assumption) (by walk_at "m:mem") (by walk_at "m:mem") (wl_find_get _) (wl_fn_get _) (wl_get_get _) (by intro t; rfl) ?_)
local macro_rules | `(tactic| walk_at "m:step") => `(tactic| first
  | ((with_reducible refine gd14 ?_); refine MethodCall_ ?_)
  | ((with_reducible refine gd15 ?_); refine w_callW ?_)
  | ((with_reducible refine gd16 ?_); walk_at "m:wl"))

section
theorem primeHas2 : (fun (_ : OpenLaw) (_ : Params → Frag) => True) PySem.Challenge.rw_ft5005_01 hd.heap_39 := by k_fill; trivial
section
variable {X : Cx} {g : Array GenState} {s : Shared} {l l' : List Ent} {A : Around} {E : Value → Shared → Prop} {env : Env}
def FnAt90 (P : Params) (body : List Stmt) : Prop := ∃ oc od name qual params scope dV kV doc pm an cdv ct osl, (hd.heap_39 P).lookup 90 = some ⟨oc, od, .func (fnOf name qual params body scope dV kV doc pm an cdv ct), osl⟩
theorem fn90 (P : Params) {oc od name qual params body scope dV kV doc pm an cdv ct osl} (h : (hd.heap_39 P).lookup 90 = some ⟨oc, od, .func (fnOf name qual params body scope dV kV doc pm an cdv ct), osl⟩)
   {oc' od' name' qual' params' body' scope' dV' kV' doc' pm' an' cdv' ct' osl'} (h' : (hd.heap_39 P).lookup 90 = some ⟨oc', od', .func (fnOf name' qual' params' body' scope' dV' kV' doc' pm' an' cdv' ct'), osl'⟩) : body = body' := by
  rw [h] at h'; injection h' with h'; injection h' with _ _ h' _; injection h' with h'; unfold fnOf at h'; injection h' with _ _ _ h' ; injection h'

theorem c_has {D : Dag} {body : List Stmt} (hb90 : FnAt90 X.w.params body) {nm qual : Str} {params : Arguments} {bd : List Stmt} {scope : Scope} {pos : Pos} (hst : body[6]? = some (.FunctionDef nm params bd [] none [] scope none nm pos))
    {W dx Dl d f c' cD : Addr} {doc pm ctv : Value} {t4 : Tok} {vs : List Value} {hs : List Nat} {xs : Xs} {fl : Nat → Nat} {Q : Value → Shared → Prop} {f0 : Ent} (S : St X g s (f0 :: l)) (R : Rm A 30) (hb : AllBare g)
    (hf : (f, Is (fnMade nm qual params bd scope [(Str.ofString "_DNC", cD)] doc pm c' ctv)) ∈ l) (hc : (c', CodeIs qual) ∈ l) (hcell : (cD, CellHas (some (.int 4 t4))) ∈ l)
    (hW : (W, InstIs 80 dx) ∈ l) (hdx : (dx, AttrIs Dl) ∈ l) (hDl : (Dl, ListIs vs) ∈ l) (hv : All2 (PairV D (-·) l) vs hs) (hd : (d, DictIs X xs) ∈ l) (hd1 : (d == sysModules) = false) (F : DFl D l xs (valOf fl))
    (h : ∀ s' g', AllBare g' → St X g' s' (f0 :: l) → Q (.bool (hasC fl hs)) s') : wpAny X.M A (call (.ref f) [.ref W, .ref d] []) Q E s := by
  obtain ⟨oc, od, name, qual', params', scope', dV, kV, doc', pm', an, cdv, ct, osl, h90⟩ := hb90
  have := fn90 _ h90 (by k_is)
  subst this
  cases hst
  refine w_made (binds := [(Str.ofString "wlst", .ref W), (Str.ofString "cstates", .ref d)]) S R (.tail _ hf) (.tail _ hc) (BindsTo.of_eq rfl) (fun Lh s1 S1 => ?_) (locs rfl) (by decide) rfl rfl rfl
  have hv' : All2 (PairV D (-·) l) vs hs := hv
  repeat' walk_at "m:step"
  refine w_For2 ?_
  have hW1 : (W, InstIs 80 dx) ∈ (Lh, NsHas [(Str.ofString "wlst", Value.ref W), (Str.ofString "cstates", Value.ref d)].reverse) :: f0 :: l := .tail _ (.tail _ hW)
  repeat' walk_at "m:step"
  rename St _ _ _ _ => S2
  refine c_iter S2 (R.deeper (k := 29) _) fun Ga Lg s3 p1 p2 p3 p4 p5 p6 p7 p8 p9 p10 p11 p12 k1 k2 S3 => ?_
  generalize hA : A.deeper _ = A' at *
  have R' : Rm A' 29 := hA ▸ R.deeper _
  refine wpAny_pyIter_gen (g := g.size) (by obtain ⟨o, ho, hc, ⟨nm, qn, hd⟩, hsl⟩ := S3.mem (a := Ga) (.tail _ (.head _)); exact ⟨o, nm, qn, ho, hc, hd, hsl⟩) ?_
  let C : GenCx := ⟨X, Dl, vs, Lg, Lh, (Ga, GenIs g.size) :: f0 :: l⟩
  have hitem : ∀ (i : Nat) (v : Value), C.vs[i]? = some v → ∃ p k a, v = Value.ref p ∧ (p, PairIs k a) ∈ C.l := fun i v e => by
    obtain ⟨k, _, p, a, rfl, _, hp, _⟩ := hv.get e
    exact ⟨p, _, a, rfl, .tail _ (.tail _ hp)⟩
  have hG0 : C.Ready A' (.fresh (.func [gFor p1 p2 p3 p4 p5 p6 p7 p8 p9 p10 p11 p12 k1 k2] (genv Lg))) [(Lg, NsHas [(Str.ofString "self", .ref W)])] vs.length :=
    ⟨rfl, fun s'' g'' o'' S'' => ⟨rfl, gen_start C rfl (R'.le (k := 29) (j := 4 + 0) (by omega)) (.tail _ (.tail _ hDl)) (.tail _ (.tail _ hW)) (.tail _ (.tail _ hdx)) hitem g'' s'' o'' S''⟩⟩
  have S4 : St X _ s3 ((Lh, NsHas [(Str.ofString "wlst", Value.ref W), (Str.ofString "cstates", Value.ref d)].reverse) :: ([(Lg, NsHas [(Str.ofString "self", .ref W)])] ++ C.l)) := S3.perm ((List.Perm.swap _ _ _).cons _)
  refine codeAny_forLoop2 (fun n s => ∃ i GE gs g', n = vs.length - i ∧ i ≤ vs.length ∧ hasC fl (hs.take i) = false ∧ C.Ready A' gs GE (vs.length - i) ∧ g'[g.size]? = some gs ∧ AllBare g' ∧ St X g' s ((Lh, NsHas [(Str.ofString "wlst", Value.ref W), (Str.ofString "cstates", Value.ref d)].reverse) :: (GE ++ C.l))) ?_ vs.length ⟨0, _, _, _, rfl, Nat.zero_le _, rfl, hG0, by simp, hb.push rfl, S4⟩
  rintro n s5 ⟨i, GE, gs, g', rfl, hi, htake, hG, hgs, hbare, S5⟩
  refine w_genNext C S5 R' hG (.head _) hgs hbare ?_ ?_
  · intro i' m' κ a q GE' gs' g'' s6 hm hi' hItem hReady hgs' hb' S6
    have : i' = i := by have : C.vs = vs := rfl; rw [this] at hi'; omega
    subst this
    dsimp only
    have S7 : St X g'' s6 ((Lh, NsHas [(Str.ofString "wlst", Value.ref W), (Str.ofString "cstates", Value.ref d)].reverse) :: (q, PairIs (-κ) a) :: (GE' ++ C.l)) := S6
    clear S6 S5 S4
    obtain ⟨p, hp1, hp2⟩ := hItem
    obtain ⟨k, hk0, p', a', e, hkN, hp', ha'⟩ := hv.get hp1
    cases e
    have hsub : ∀ {x y : Ent}, l ⊆ x :: y :: (GE' ++ C.l) := fun {x y} e he => .tail _ (.tail _ (List.mem_append_right _ (.tail _ (.tail _ he))))
    obtain ⟨t1, ht1⟩ := S7.isPair (.tail _ (.tail _ (List.mem_append_right _ hp2)))
    obtain ⟨t2, ht2⟩ := S7.isPair (hsub hp')
    have ea := isTuple_inj ht1 ht2
    simp only [Array.mk.injEq, List.cons.injEq, Value.int.injEq, Value.ref.injEq, and_true] at ea
    obtain ⟨_, rfl⟩ := ea
    clear ht1 ht2
    refine letOwned_gen (n := g.size) (by obtain ⟨o, h1, h2⟩ := S7.mem (a := Ga) (.tail _ (.tail _ (List.mem_append_right _ (.head _)))); exact ⟨o, h1, h2⟩) ?_
    obtain ⟨t, ht⟩ := S7.isPair (.tail _ (.head _))
    refine w_unpack2 S7 R'.hh ht fun s8 S8 => ?_
    clear S7
    repeat' walk_at "m:step"
    refine w_dictIn S8 (hsub hd) hd1 (F.sees (.of_sub hsub)) (hsub ha') hkN R'.u1 fun s9 S9 => ?_
    repeat' walk_at "m:step"
    have fin : ∀ {b : List (Str × Value)} {s10 : Shared}, St X g'' s10 ((Lh, NsHas b) :: (q, PairIs (-κ) a) :: (GE' ++ C.l)) → (∀ p ∈ [(Str.ofString "wlst", Value.ref W), (Str.ofString "cstates", Value.ref d)].reverse, b.lookup p.1 = some p.2) →
        (decide (fl k ≠ 0) && decide (fl k &&& 4 ≠ 4)) = false → ∃ m, m < vs.length - i' ∧ ∃ i GE gs g', m = vs.length - i ∧ i ≤ vs.length ∧ hasC fl (hs.take i) = false ∧ C.Ready A' gs GE (vs.length - i) ∧ g'[g.size]? = some gs ∧ AllBare g' ∧
          St X g' s10 ((Lh, NsHas [(Str.ofString "wlst", Value.ref W), (Str.ofString "cstates", Value.ref d)].reverse) :: (GE ++ C.l)) := by
      intro b s10 S10 hb10 hf
      refine ⟨vs.length - (i' + 1), by omega, i' + 1, GE', gs', g'', rfl, by omega, hasC_take hk0 hf htake, ?_, hgs', hb', ?_⟩
      · have : vs.length - (i' + 1) = m' := by omega
        rw [this]; exact hReady
      · exact (S10.wk .here (NsHas.wk hb10)).sub ((List.sublist_cons_self _ _).cons_cons _)
    have hb0 : ∀ p ∈ [(Str.ofString "wlst", Value.ref W), (Str.ofString "cstates", Value.ref d)].reverse, ((Str.ofString "cmt", Value.ref a) :: (Str.ofString "dt", Value.int (-κ) t) :: [(Str.ofString "wlst", Value.ref W), (Str.ofString "cstates", Value.ref d)].reverse).lookup p.1 = some p.2 := by
      intro p hp
      rcases List.mem_cons.mp hp with rfl | hp
      · rfl
      · rcases List.mem_singleton.mp hp with rfl; rfl
    by_cases h0 : fl k = 0
    · have hv0 : valOf fl k = none := if_pos h0
      rw [hv0]
      simp only [Option.isSome_none, Bool.false_eq_true, if_false]
      repeat' walk_at "m:step"
      exact fin S9 hb0 (by simp [h0])
    · have hv0 : valOf fl k = some (fl k : Int) := if_neg h0
      rw [hv0]
      simp only [Option.isSome_some, if_true]
      have hcell' := hsub (x := ((envX qual
          { kind := ScopeKind.function,
            names :=
              [(Str.ofString "wlst", NameKind.local), (Str.ofString "cstates", NameKind.local),
                (Str.ofString "dt", NameKind.local), (Str.ofString "cmt", NameKind.local),
                (Str.ofString "_DNC", NameKind.free)],
            isGenerator := false, isCoroutine := false }
          Lh f (Value.ref c') [(Str.ofString "_DNC", cD)]).locals, NsHas ((Str.ofString "cmt", Value.ref a) :: (Str.ofString "dt", Value.int (-κ) t) :: [(Str.ofString "wlst", Value.ref W), (Str.ofString "cstates", Value.ref d)].reverse))) (y := (q, PairIs (-κ) a)) hcell
      repeat' walk_at "m:step"
      refine w_dictTail S9 (hsub hd) (F.sees (.of_sub hsub)) (hsub ha') hkN hv0 R'.u1 fun s10 t10 S10 => ?_
      repeat' walk_at "m:step"
      rename St _ _ _ _ => S11
      have e4 : (Builtin.bitAnd (fl k : Int) 4 == 4) = decide (fl k &&& 4 = 4) := by
        rw [show (4 : Int) = ((4 : Nat) : Int) from rfl, and_nat]
        by_cases e : fl k &&& 4 = 4
        · rw [e]; rfl
        · rw [decide_eq_false e, beq_eq_false_iff_ne]
          exact fun q => e (by exact_mod_cast q)
      rw [e4]
      by_cases e : fl k &&& 4 = 4
      · simp only [e, decide_true, Bool.not_true, Bool.false_eq_true, if_false]
        repeat' walk_at "m:step"
        exact fin S11 hb0 (by simp [e])
      · simp only [e, decide_false, Bool.not_false, if_true]
        repeat' walk_at "m:step"
        dsimp only [retOf]
        rw [← hasC_hit (fl := fl) hk0 (by simp [h0, e])]
        exact h _ _ hb' (S11.sub ((((List.sublist_cons_self _ _).trans (List.sublist_append_right GE' C.l)).cons _).cons _))
  · intro g'' s6 hm hb' S6
    dsimp only
    have S7 : St X g'' s6 ((Lh, NsHas [(Str.ofString "wlst", Value.ref W), (Str.ofString "cstates", Value.ref d)].reverse) :: C.l) := S6
    repeat' walk_at "m:step"
    have ei : i = hs.length := by have := hv.length; omega
    subst ei
    rw [List.take_length] at htake
    dsimp only [retOf]
    rw [← htake]
    exact h _ _ hb' (S7.sub ((List.Sublist.refl _).cons _ |>.cons _))
end
end

end Mine

namespace Mine
local macro_rules | `(tactic| walk_at "m:mem") => `(tactic| first | exact List.Mem.head _ | assumption | (refine List.Mem.tail _ ?_; walk_at "m:mem") | (refine List.mem_append_right _ ?_; walk_at "m:mem"))
local macro_rules | `(tactic| walk_at "m:glob") => `(tactic| first | exact n_len _ | exact n_range _ | exact n_sorted _ | exact n_abs _ | exact n_list _ | exact n_enumerate _ | k_is)
local macro_rules | `(tactic| walk_at "m:boot") => `(tactic| first | exact PySem.boot_len | exact PyProof.Rows.boot_range | exact PyProof.Rows.boot_sorted | exact PyProof.Rows.boot_abs | exact PyProof.Rows.boot_list | exact PyProof.Rows.boot_enumerate)
local macro_rules | `(tactic| walk_at "m:name") => `(tactic| first
  | (refine' w_local (by assumption) ?mhb ?_; (case mhb => exact rfl))
  | (refine' w_cell (by assumption) ?mhc ?mhm ?_; (case mhc => exact rfl); (case mhm => walk_at "m:mem"))
  | (refine' w_builtin (by assumption) ?mhe ?mhv ?_; (case mhe => walk_at "m:glob"); (case mhv => walk_at "m:boot"))
  | (refine' w_global (by assumption) ?mhe ?_; (case mhe => walk_at "m:glob"))
  | (refine' w_free (by assumption) ?mhc ?mhm ?_; (case mhc => exact rfl); (case mhm => walk_at "m:mem")))
local macro_rules | `(tactic| walk_at "m:kp") => `(tactic| first | exact kp_builtin | exact kp_type | exact kp_K (by assumption) (by k_is))
local macro_rules | `(tactic| walk_at "m:step") => `(tactic| first
  | with_reducible refine wpAny_items_nil ?_
  | ((with_reducible refine gd0 ?_); refine wpAny_items_cons ?_)
  | with_reducible refine wpAny_execs_nil ?_
  | with_reducible refine wpAny_execs_cons ?_
  | ((with_reducible refine gd1 ?_); walk_at "m:name")
  | ((with_reducible refine w_int (by assumption) ?_); intro _ _ _)
  | with_reducible refine wpAny_BinOp ?_
  | with_reducible refine PyProof.Rows.Subscript_ ?_
  | ((with_reducible refine gd2 ?_); refine w_Call ?_)
  | ((with_reducible refine gd3 ?_); refine wpAny_Compare1 ?_)
  | ((with_reducible refine gd4 ?_); refine wpAny_isTrue_Compare1 ?_)
  | with_reducible refine wpAny_truthy_bool ?_
  | with_reducible refine PyProof.Rows.gt_int ?_
  | with_reducible refine PyProof.Rows.lt_int ?_
  | with_reducible refine PyProof.Rows.eq_int ?_
  | with_reducible refine PyProof.Rows.ne_int ?_
  | ((with_reducible refine w_add (by assumption) ?_); intro _ _ _)
  | ((with_reducible refine w_sub (by assumption) ?_); intro _ _ _)
  | ((with_reducible refine w_and (by assumption) ?_); intro _ _ _)
  | ((with_reducible refine w_or (by assumption) ?_); intro _ _ _)
  | ((with_reducible refine w_neg (by assumption) ?_); intro _ _ _)
  | with_reducible refine wpAny_If ?_
  | ((with_reducible refine gd5 ?_); refine wpAny_Assign_Name ?_)
  | with_reducible refine wpAny_Return_some ?_
  | with_reducible refine wpAny_IfExp ?_
  | with_reducible refine wpAny_UnaryOp ?_
  | with_reducible refine wpAny_isTrue_Not ?_
  | with_reducible refine wpAny_Constant_none ?_
  | with_reducible refine wpAny_Constant_bool ?_
  | with_reducible refine wpAny_Continue ?_
  | with_reducible refine wpAny_Break ?_
  | with_reducible refine wpAny_isTrue_BoolOp ?_
  | with_reducible refine wpAny_allTrue_And_cons ?_
  | with_reducible refine wpAny_allTrue_And_nil ?_
  | with_reducible refine wpAny_allTrue_Or_cons ?_
  | with_reducible refine wpAny_allTrue_Or_nil ?_
  | ((with_reducible refine gd6 ?_); (refine w_store (by assumption) ?_); intro _ _)
  | (with_reducible refine PyProof.Rows.Tuple_ ?_)
  | (with_reducible refine PyProof.Rows.List_ ?_)
  | (with_reducible refine' And.intro ?mkp ?_; (case mkp => walk_at "m:kp"))
  | (with_reducible refine w_range1 (by assumption) ?_; intro _ _ _)
  | (with_reducible refine w_range2 (by assumption) ?_; intro _ _ _)
  | dsimp only)

section
def kasRun {α : Type} (dec : Nat → Nat → Bool) : KasT α → α
  | .ret a => a
  | .ask i j k => kasRun dec (k (dec i j))
theorem kasRun_bind {α β : Type} (dec : Nat → Nat → Bool) (f : α → KasT β) : ∀ t : KasT α, kasRun dec (t.bind f) = kasRun dec (f (kasRun dec t))
  | .ret a => rfl
  | .ask i j k => kasRun_bind dec f (k (dec i j))
theorem kasRun_wp {α : Type} {dec : Nat → Nat → Bool} {cmp : Nat → Nat → (Bool → Shared → Prop) → Shared → Prop} (I : Shared → Prop) (hc : ∀ i j C s, I s → (∀ s', I s' → C (dec i j) s') → cmp i j C s) {Q : α → Shared → Prop} :
    ∀ (t : KasT α) (s : Shared), I s → (∀ s', I s' → Q (kasRun dec t) s') → t.kasWp cmp Q s
  | .ret a, s, hs, h => h s hs
  | .ask i j k, s, hs, h => hc i j _ s hs fun s' hs' => kasRun_wp I hc (k (dec i j)) s' hs' h
section
variable {K : Nat → Int}
abbrev decK (K : Nat → Int) : Nat → Nat → Bool := fun i j => decide (K i < K j)
def KP (K : Nat → Int) (p : Array Nat) (i : Nat) : Int := K (p.getD i 0)
def UpTo (K : Nat → Int) (p : Array Nat) (k : Nat) : Prop := ∀ i j, i ≤ j → j < k → KP K p i ≤ KP K p j
def DownTo (K : Nat → Int) (p : Array Nat) (k : Nat) : Prop := ∀ i j, i ≤ j → j < k → KP K p j ≤ KP K p i
theorem KP_congr {xs ys : Array Nat} {i j : Nat} (h : xs[i]? = ys[j]?) : KP K xs i = KP K ys j := by unfold KP; rw [Array.getD_eq_getD_getElem?, Array.getD_eq_getD_getElem?, h]
theorem KP_bubble {xs : Array Nat} {src d : Nat} (hs : src < xs.size) (hd : d ≤ src) (k : Nat) :
    KP K (bubble xs src d) k = if k = src - d then KP K xs src else if src - d < k ∧ k ≤ src then KP K xs (k - 1) else KP K xs k := by
  have e := getElem?_bubble hs d hd k
  by_cases h1 : k = src - d
  · rw [if_pos h1] at e ⊢; exact KP_congr e
  · rw [if_neg h1] at e ⊢
    by_cases h2 : src - d < k ∧ k ≤ src
    · rw [if_pos h2] at e ⊢; exact KP_congr e
    · rw [if_neg h2] at e ⊢; exact KP_congr e
theorem KP_mirror {xs : Array Nat} {i j : Nat} (hj : j ≤ xs.size) (k : Nat) :
    KP K (kas_rev xs i j) k = if i ≤ k ∧ k < j then KP K xs (i + j - 1 - k) else KP K xs k := by
  have e := getElem?_mirror_all (i := i) hj k
  by_cases h1 : i ≤ k ∧ k < j
  · rw [if_pos h1] at e ⊢; exact KP_congr e
  · rw [if_neg h1] at e ⊢; exact KP_congr e
theorem KP_mirror_equal {xs : Array Nat} {i j : Nat} (hj : j ≤ xs.size) (heq : ∀ k, i ≤ k → k < j → KP K xs k = KP K xs (j - 1)) (k : Nat) : KP K (kas_rev xs i j) k = KP K xs k := by
  rw [KP_mirror hj]
  split
  · rw [heq _ (by omega) (by omega), heq k (by omega) (by omega)]
  · rfl

theorem run_asc {p : Array Nat} : ∀ (f a : Nat), 1 ≤ a → UpTo K p a → ∃ m, kasRun (decK K) (kas_asc p f a) = m ∧ a ≤ m ∧ m ≤ a + f ∧ UpTo K p m ∧ (m = a + f ∨ KP K p m < KP K p (m - 1))
  | 0, a, _, hs => ⟨a, rfl, Nat.le_refl _, Nat.le_refl _, hs, .inl rfl⟩
  | f + 1, a, ha, hs => by
    rw [kas_asc, kasRun]
    by_cases h : KP K p a < KP K p (a - 1)
    · rw [if_pos (by exact decide_eq_true h)]
      exact ⟨a, rfl, Nat.le_refl _, by omega, hs, .inr h⟩
    · rw [if_neg (by intro e; exact h (of_decide_eq_true e))]
      obtain ⟨m, e, h1, h2, h3, h4⟩ := run_asc f (a + 1) (by omega) (fun i j hij hj => by
        by_cases hjx : j < a
        · exact hs i j hij hjx
        · have hj' : j = a := by omega
          subst hj'
          by_cases hi' : i = j
          · subst hi'; exact Int.le_refl _
          · exact Int.le_trans (hs i (j - 1) (by omega) (by omega)) (by omega))
      exact ⟨m, e, by omega, by omega, h3, h4.imp (by omega) id⟩
theorem run_desc : ∀ (f : Nat) (p : Array Nat) (n q : Nat), 1 ≤ n → n + f ≤ p.size → DownTo K p n → q + 1 ≤ n → (∀ i, n - (q + 1) ≤ i → i < n → KP K p i = KP K p (n - 1)) →
    ∃ p' m q', kasRun (decK K) (kas_desc f p n q) = (p', m, q') ∧ p'.Perm p ∧ n ≤ m ∧ m ≤ n + f ∧ DownTo K p' m ∧ q' + 1 ≤ m ∧ (∀ i, m - (q' + 1) ≤ i → i < m → KP K p' i = KP K p' (m - 1))
  | 0, p, n, q, _, _, hs, hq, he => ⟨p, n, q, rfl, .rfl, Nat.le_refl _, Nat.le_refl _, hs, hq, he⟩
  | f + 1, p, n, q, h1, hz, hs, hq, he => by
    rw [kas_desc, kasRun]
    by_cases h : KP K p n < KP K p (n - 1)
    · rw [if_pos (by exact decide_eq_true h)]
      have step1 : ∀ xs : Array Nat, (∀ k, KP K xs k = KP K p k) → DownTo K xs (n + 1) := by
        intro xs hk i j hij hj
        rw [hk, hk]
        by_cases hjx : j < n
        · exact hs i j hij hjx
        · have hj' : j = n := by omega
          subst hj'
          by_cases hi' : i = j
          · subst hi'; exact Int.le_refl _
          · exact Int.le_trans (Int.le_of_lt h) (hs i (j - 1) (by omega) (by omega))
      by_cases hneq : q > 0
      · rw [if_pos hneq]
        have hsz : (kas_rev p (n - (q + 1)) n).size = p.size := mirror_size _ _ _ _
        obtain ⟨p', m, q', e, hp, g1, g2, g3, g4, g5⟩ := run_desc f (kas_rev p (n - (q + 1)) n) (n + 1) 0 (by omega) (by rw [hsz]; omega) (step1 _ (KP_mirror_equal (by omega) he)) (by omega) (fun i h1 h2 => by congr 1; omega)
        exact ⟨p', m, q', e, hp.trans (mirror_perm _ _ _ _), by omega, by omega, g3, g4, g5⟩
      · rw [if_neg hneq]
        obtain ⟨p', m, q', e, hp, g1, g2, g3, g4, g5⟩ := run_desc f p (n + 1) 0 (by omega) (by omega) (step1 _ fun _ => rfl) (by omega) (fun i h1 h2 => by congr 1; omega)
        exact ⟨p', m, q', e, hp, by omega, by omega, g3, g4, g5⟩
    · rw [if_neg (by intro e; exact h (of_decide_eq_true e)), kasRun]
      by_cases h' : KP K p (n - 1) < KP K p n
      · rw [if_pos (by exact decide_eq_true h')]
        exact ⟨p, n, q, rfl, .rfl, Nat.le_refl _, by omega, hs, hq, he⟩
      · rw [if_neg (by intro e; exact h' (of_decide_eq_true e))]
        have heqx : KP K p n = KP K p (n - 1) := by omega
        obtain ⟨p', m, q', e, hp, g1, g2, g3, g4, g5⟩ := run_desc f p (n + 1) (q + 1) (by omega) (by omega) (fun i j hij hj => by
            by_cases hjx : j < n
            · exact hs i j hij hjx
            · have hj' : j = n := by omega
              subst hj'
              by_cases hi' : i = j
              · subst hi'; exact Int.le_refl _
              · rw [heqx]; exact hs i (j - 1) (by omega) (by omega)) (by omega) (fun i h1 h2 => by
            rw [show n + 1 - 1 = n by omega]
            by_cases hix : i = n
            · subst hix; rfl
            · rw [heqx]; exact he i (by omega) (by omega))
        exact ⟨p', m, q', e, hp, by omega, by omega, g3, g4, g5⟩
theorem run_tail3 {n nrem : Nat} {p : Array Nat} (h1 : 1 ≤ n) (hn : n ≤ nrem) (hz : nrem ≤ p.size) (hs : DownTo K p n) :
    ∃ m p', kasRun (decK K) (kas_tail3 n nrem p) = (m, p') ∧ p'.Perm p ∧ 1 ≤ m ∧ m ≤ nrem ∧ UpTo K p' m := by
  unfold kas_tail3
  rw [kasRun_bind]
  obtain ⟨m, e, g1, g2, g3, _⟩ := run_asc (K := K) (p := kas_rev p 0 n) (nrem - n) n h1 (fun i j hij hj => by
    rw [KP_mirror (by omega), KP_mirror (by omega), if_pos (by omega), if_pos (by omega)]
    exact hs _ _ (by omega) (by omega))
  rw [e]
  exact ⟨m, _, rfl, mirror_perm _ _ _ _, by omega, by omega, g3⟩
theorem run_descPart {n nrem : Nat} {p : Array Nat} (h1 : 1 ≤ n) (hn : n + 1 ≤ nrem) (hz : nrem ≤ p.size) (hs : DownTo K p (n + 1)) :
    ∃ m p', kasRun (decK K) (kas_descPart n nrem p) = (m, p') ∧ p'.Perm p ∧ 1 ≤ m ∧ m ≤ nrem ∧ UpTo K p' m := by
  unfold kas_descPart
  rw [kasRun_bind]
  obtain ⟨p', m, q', e, hp, g1, g2, g3, g4, g5⟩ := run_desc (K := K) (nrem - (n + 1)) p (n + 1) 0 (by omega) (by omega) hs (by omega) (fun i h1 h2 => by congr 1; omega)
  have hsz := hp.size_eq
  rw [e]
  dsimp only
  by_cases hq : q' > 0
  · rw [if_pos hq]
    have hz2 : (kas_rev p' (m - (q' + 1)) m).size = p'.size := mirror_size _ _ _ _
    obtain ⟨m2, p2, e2, hp2, k1, k2, k3⟩ := run_tail3 (K := K) (n := m) (nrem := nrem) (p := kas_rev p' (m - (q' + 1)) m) (by omega) (by omega) (by omega) (fun i j hij hj => by
      rw [KP_mirror_equal (by omega) g5, KP_mirror_equal (by omega) g5]; exact g3 i j hij hj)
    exact ⟨m2, p2, e2, (hp2.trans (mirror_perm _ _ _ _)).trans hp, k1, k2, k3⟩
  · rw [if_neg hq]
    obtain ⟨m2, p2, e2, hp2, k1, k2, k3⟩ := run_tail3 (K := K) (n := m) (nrem := nrem) (p := p') (by omega) (by omega) (by omega) g3
    exact ⟨m2, p2, e2, hp2.trans hp, k1, k2, k3⟩
theorem run_count {nrem : Nat} {p : Array Nat} (h1 : 1 ≤ nrem) (hz : nrem ≤ p.size) :
    ∃ m p', kasRun (decK K) (kas_count nrem p) = (m, p') ∧ p'.Perm p ∧ 1 ≤ m ∧ m ≤ nrem ∧ UpTo K p' m := by
  unfold kas_count
  rw [kasRun_bind]
  obtain ⟨n, e, g1, g2, g3, g4⟩ := run_asc (K := K) (p := p) (nrem - 1) 1 (Nat.le_refl _) (fun i j hij hj => by have : i = j := (by omega); subst this; exact Int.le_refl _)
  rw [e]
  by_cases hnn : n = nrem
  · rw [if_pos (by simpa using hnn)]
    exact ⟨n, p, rfl, .rfl, g1, by omega, g3⟩
  · rw [if_neg (by simpa using hnn)]
    have hlt : KP K p n < KP K p (n - 1) := g4.resolve_left (by omega)
    by_cases hgt : n > 1
    · rw [if_pos hgt, kasRun]
      by_cases hr : KP K p 0 < KP K p (n - 1)
      · rw [if_pos (by exact decide_eq_true hr)]
        exact ⟨n, p, rfl, .rfl, g1, by omega, g3⟩
      · rw [if_neg (by intro e; exact hr (of_decide_eq_true e))]
        have hall : ∀ k, 0 ≤ k → k < n → KP K p k = KP K p (n - 1) := by
          intro k _ hk
          have a1 := g3 0 k (by omega) hk
          have a2 := g3 k (n - 1) (by omega) (by omega)
          omega
        have hz2 : (kas_rev p 0 n).size = p.size := mirror_size _ _ _ _
        obtain ⟨m2, p2, e2, hp2, k1, k2, k3⟩ := run_descPart (K := K) (n := n) (nrem := nrem) (p := kas_rev p 0 n) (by omega) (by omega) (by omega) (fun i j hij hj => by
          rw [KP_mirror_equal (by omega) hall, KP_mirror_equal (by omega) hall]
          by_cases hjn : j < n
          · rw [hall i (by omega) (by omega), hall j (by omega) hjn]; exact Int.le_refl _
          · have hj' : j = n := by omega
            subst hj'
            by_cases hi' : i = j
            · subst hi'; exact Int.le_refl _
            · rw [hall i (by omega) (by omega)]; exact Int.le_of_lt hlt)
        exact ⟨m2, p2, e2, hp2.trans (mirror_perm _ _ _ _), k1, k2, k3⟩
    · rw [if_neg hgt]
      have hn1' : n = 1 := by omega
      subst hn1'
      obtain ⟨m2, p2, e2, hp2, k1, k2, k3⟩ := run_descPart (K := K) (n := 1) (nrem := nrem) (p := p) (by omega) (by omega) (by omega) (fun i j hij hj => by
        by_cases hi' : i = j
        · subst hi'; exact Int.le_refl _
        · have hi0 : i = 0 := by omega
          have hj1 : j = 1 := by omega
          subst hi0; subst hj1
          exact Int.le_of_lt hlt)
      exact ⟨m2, p2, e2, hp2, k1, k2, k3⟩
theorem run_place {p : Array Nat} {k : Nat} (hs : UpTo K p k) : ∀ (f l r : Nat), l ≤ r → r ≤ k → r - l ≤ f → (∀ i, i < l → KP K p i ≤ KP K p k) → (∀ i, r ≤ i → i < k → KP K p k < KP K p i) →
    ∃ m, kasRun (decK K) (kas_place p k f l r) = m ∧ m ≤ k ∧ (∀ i, i < m → KP K p i ≤ KP K p k) ∧ (∀ i, m ≤ i → i < k → KP K p k < KP K p i)
  | 0, l, r, hlr, hrk, hf, hlo, hhi => ⟨l, rfl, by omega, hlo, fun i h1 h2 => hhi i (by omega) h2⟩
  | f + 1, l, r, hlr, hrk, hf, hlo, hhi => by
    rw [kas_place]
    by_cases hge : l ≥ r
    · rw [if_pos hge]
      exact ⟨l, rfl, by omega, hlo, fun i h1 h2 => hhi i (by omega) h2⟩
    · rw [if_neg hge, kasRun]
      by_cases h : KP K p k < KP K p ((l + r) / 2)
      · rw [if_pos (by exact decide_eq_true h)]
        exact run_place hs f l ((l + r) / 2) (by omega) (by omega) (by omega) hlo (fun i h1 h2 => Int.lt_of_lt_of_le h (hs _ _ h1 h2))
      · rw [if_neg (by intro e; exact h (of_decide_eq_true e))]
        exact run_place hs f ((l + r) / 2 + 1) r (by omega) (by omega) (by omega) (fun i h1 => Int.le_trans (hs i ((l + r) / 2) (by omega) (by omega)) (by omega)) hhi
theorem run_bin : ∀ (f : Nat) (p : Array Nat) (k : Nat), k + f ≤ p.size → UpTo K p k → ∃ p', kasRun (decK K) (kas_bin f p k) = p' ∧ p'.Perm p ∧ UpTo K p' (k + f)
  | 0, p, k, _, hs => ⟨p, rfl, .rfl, hs⟩
  | f + 1, p, k, hz, hs => by
    rw [kas_bin, kasRun_bind]
    obtain ⟨l, e, hl, hlo, hhi⟩ := run_place (K := K) hs k 0 k (by omega) (Nat.le_refl _) (by omega) (fun i h => by omega) (fun i h1 h2 => by omega)
    rw [e]
    have hz2 : (bubble p k (k - l)).size = p.size := bubble_size _ _ _
    obtain ⟨p', e2, hp, h2⟩ := run_bin f (bubble p k (k - l)) (k + 1) (by omega) (fun i j hij hj => by
      rw [KP_bubble (by omega) (by omega), KP_bubble (by omega) (by omega), show k - (k - l) = l by omega]
      repeat' split
      all_goals first
        | (exfalso; omega)
        | exact Int.le_refl _
        | exact hlo _ (by omega)
        | exact Int.le_of_lt (hhi _ (by omega) (by omega))
        | exact hs _ _ (by omega) (by omega))
    exact ⟨p', e2, hp.trans (bubble_perm _ _ _), by rw [show k + (f + 1) = k + 1 + f by omega]; exact h2⟩
theorem run_sort {n : Nat} (h1 : 1 ≤ n) : ∃ p, kasRun (decK K) (kas_sort n) = p ∧ p.Perm (List.toArray (List.range n)) ∧ UpTo K p n := by
  unfold kas_sort
  rw [kasRun_bind]
  have hsz : (List.toArray (List.range n)).size = n := by simp
  obtain ⟨m, p', e, hp, g1, g2, g3⟩ := run_count (K := K) (p := List.toArray (List.range n)) h1 (by rw [hsz]; exact Nat.le_refl _)
  have hz := hp.size_eq
  rw [e]
  dsimp only
  by_cases hlt : m < n
  · rw [if_pos hlt]
    obtain ⟨p2, e2, hp2, k3⟩ := run_bin (K := K) (n - max m 1) p' (max m 1) (by omega) (by rw [show max m 1 = m by omega]; exact g3)
    exact ⟨p2, e2, hp2.trans hp, by rw [show max m 1 + (n - max m 1) = n by omega] at k3; exact k3⟩
  · rw [if_neg hlt]
    exact ⟨p', rfl, hp, by rw [show m = n by omega] at g3; exact g3⟩
/-- a list put in the order of its keys -/
theorem sort_list {α : Type} (key : α → Int) (d : α) (l : List α) (h1 : 1 ≤ l.length) :
    ∃ l' : List α, (kasRun (decK fun i => key (l.getD i d)) (kas_sort l.length)).toList.map (fun i => l.getD i d) = l' ∧ l'.Perm l ∧ l'.Pairwise (fun a b => key a ≤ key b) := by
  obtain ⟨p, e, hp, hs⟩ := run_sort (K := fun i => key (l.getD i d)) h1
  have hp' : p.toList.Perm (List.range l.length) := Array.perm_iff_toList_perm.mp hp
  have hlen : p.size = l.length := by have := hp.size_eq; simpa using this
  rw [e]
  refine ⟨_, rfl, ?_, ?_⟩
  · have h2 := hp'.map fun i => l.getD i d
    have h3 : (List.range l.length).map (fun i => l.getD i d) = l := by
      apply List.ext_getElem
      · simp
      · intro i h1 h2; simp at h1 h2 ⊢; simp [h1]
    rw [h3] at h2; exact h2
  · rw [List.pairwise_map, List.pairwise_iff_getElem]
    intro i j hi hj hij
    have hi' : i < p.size := by simpa using hi
    have hj' : j < p.size := by simpa using hj
    have := hs i j (Nat.le_of_lt hij) (by omega)
    unfold KP at this
    simpa [hi', hj'] using this
end
end

end Mine

namespace Mine
local macro_rules | `(tactic| walk_at "m:mem") => `(tactic| first | exact List.Mem.head _ | assumption | (refine List.Mem.tail _ ?_; walk_at "m:mem") | (refine List.mem_append_right _ ?_; walk_at "m:mem"))
local macro_rules | `(tactic| walk_at "m:glob") => `(tactic| first | exact n_len _ | exact n_range _ | exact n_sorted _ | exact n_abs _ | exact n_list _ | exact n_enumerate _ | k_is)
local macro_rules | `(tactic| walk_at "m:boot") => `(tactic| first | exact PySem.boot_len | exact PyProof.Rows.boot_range | exact PyProof.Rows.boot_sorted | exact PyProof.Rows.boot_abs | exact PyProof.Rows.boot_list | exact PyProof.Rows.boot_enumerate)
local macro_rules | `(tactic| walk_at "m:name") => `(tactic| first
  | (refine' w_local (by assumption) ?mhb ?_; (case mhb => exact rfl))
  | (refine' w_cell (by assumption) ?mhc ?mhm ?_; (case mhc => exact rfl); (case mhm => walk_at "m:mem"))
  | (refine' w_builtin (by assumption) ?mhe ?mhv ?_; (case mhe => walk_at "m:glob"); (case mhv => walk_at "m:boot"))
  | (refine' w_global (by assumption) ?mhe ?_; (case mhe => walk_at "m:glob"))
  | (refine' w_free (by assumption) ?mhc ?mhm ?_; (case mhc => exact rfl); (case mhm => walk_at "m:mem")))
local macro_rules | `(tactic| walk_at "m:kp") => `(tactic| first | exact kp_builtin | exact kp_type | exact kp_K (by assumption) (by k_is))
local macro_rules | `(tactic| walk_at "m:step") => `(tactic| first
  | with_reducible refine wpAny_items_nil ?_
  | ((with_reducible refine gd0 ?_); refine wpAny_items_cons ?_)
  | with_reducible refine wpAny_execs_nil ?_
  | with_reducible refine wpAny_execs_cons ?_
  | ((with_reducible refine gd1 ?_); walk_at "m:name")
  | ((with_reducible refine w_int (by assumption) ?_); intro _ _ _)
  | with_reducible refine wpAny_BinOp ?_
  | with_reducible refine PyProof.Rows.Subscript_ ?_
  | ((with_reducible refine gd2 ?_); refine w_Call ?_)
  | ((with_reducible refine gd3 ?_); refine wpAny_Compare1 ?_)
  | ((with_reducible refine gd4 ?_); refine wpAny_isTrue_Compare1 ?_)
  | with_reducible refine wpAny_truthy_bool ?_
  | with_reducible refine PyProof.Rows.gt_int ?_
  | with_reducible refine PyProof.Rows.lt_int ?_
  | with_reducible refine PyProof.Rows.eq_int ?_
  | with_reducible refine PyProof.Rows.ne_int ?_
  | ((with_reducible refine w_add (by assumption) ?_); intro _ _ _)
  | ((with_reducible refine w_sub (by assumption) ?_); intro _ _ _)
  | ((with_reducible refine w_and (by assumption) ?_); intro _ _ _)
  | ((with_reducible refine w_or (by assumption) ?_); intro _ _ _)
  | ((with_reducible refine w_neg (by assumption) ?_); intro _ _ _)
  | with_reducible refine wpAny_If ?_
  | ((with_reducible refine gd5 ?_); refine wpAny_Assign_Name ?_)
  | with_reducible refine wpAny_Return_some ?_
  | with_reducible refine wpAny_IfExp ?_
  | with_reducible refine wpAny_UnaryOp ?_
  | with_reducible refine wpAny_isTrue_Not ?_
  | with_reducible refine wpAny_Constant_none ?_
  | with_reducible refine wpAny_Constant_bool ?_
  | with_reducible refine wpAny_Continue ?_
  | with_reducible refine wpAny_Break ?_
  | with_reducible refine wpAny_isTrue_BoolOp ?_
  | with_reducible refine wpAny_allTrue_And_cons ?_
  | with_reducible refine wpAny_allTrue_And_nil ?_
  | with_reducible refine wpAny_allTrue_Or_cons ?_
  | with_reducible refine wpAny_allTrue_Or_nil ?_
  | ((with_reducible refine gd6 ?_); (refine w_store (by assumption) ?_); intro _ _)
  | (with_reducible refine PyProof.Rows.Tuple_ ?_)
  | (with_reducible refine PyProof.Rows.List_ ?_)
  | (with_reducible refine' And.intro ?mkp ?_; (case mkp => walk_at "m:kp"))
  | (with_reducible refine w_range1 (by assumption) ?_; intro _ _ _)
  | (with_reducible refine w_range2 (by assumption) ?_; intro _ _ _)
  | dsimp only)
local macro_rules | `(tactic| walk_at "m:glob") => `(tactic| first | exact n_heappush _ | exact n_heappop _)
local macro_rules | `(tactic| walk_at "m:step") => `(tactic| first
  | ((with_reducible refine gd7 ?_); refine wpAny_Expr ?_)
  | ((with_reducible refine gd8 ?_); refine Attribute_any_ ?_)
  | ((with_reducible refine gd9 ?_); (refine w_getPq (by assumption) (by walk_at "m:mem") (by walk_at "m:mem") ?_); intro _ _)
  | ((with_reducible refine gd10 ?_); refine Assign_Tuple ?_)
  | ((with_reducible refine gd11 ?_); refine plainObj_wpAny_Assign_Attribute ?_))
local macro_rules | `(tactic| walk_at "m:step") => `(tactic| first
  | ((with_reducible refine gd12 ?_); refine wpAny_isTrue_value ?_)
  | ((with_reducible refine gd13 ?_); refine wpAny_isTrue_value ?_))

section
def flAt (F k : Nat) : Nat := (F >>> (4 * k)) &&& 15
def flOr (F k v : Nat) : Nat := F ||| (v <<< (4 * k))
theorem tb15 (i : Nat) : Nat.testBit 15 i = decide (i < 4) := Nat.testBit_two_pow_sub_one 4 i
theorem flAt_or {F k v : Nat} (hv : v < 16) (j : Nat) : flAt (flOr F k v) j = if j = k then flAt F k ||| v else flAt F j := by
  have hvb : ∀ i, 4 ≤ i → Nat.testBit v i = false := fun i hi => Nat.testBit_lt_two_pow (Nat.lt_of_lt_of_le (show v < 2 ^ 4 from hv) (Nat.pow_le_pow_right (by omega) hi))
  apply Nat.eq_of_testBit_eq
  intro i
  unfold flAt flOr
  by_cases hj : j = k
  · subst hj
    simp only [if_true, Nat.testBit_and, Nat.testBit_or, Nat.testBit_shiftRight, Nat.testBit_shiftLeft, tb15]
    by_cases hi : i < 4
    · simp [hi]
    · simp [hi, hvb i (by omega)]
  · simp only [if_neg hj, Nat.testBit_and, Nat.testBit_or, Nat.testBit_shiftRight, Nat.testBit_shiftLeft, tb15]
    by_cases hi : i < 4
    · have : (decide (4 * j + i ≥ 4 * k) && Nat.testBit v (4 * j + i - 4 * k)) = false := by
        by_cases h : 4 * j + i ≥ 4 * k
        · have h2 : 4 ≤ 4 * j + i - 4 * k := by omega
          simp [hvb _ h2]
        · simp [h]
      simp [hi, this]
    · simp [hi]
theorem flAt_lt (F k : Nat) : flAt F k < 16 := Nat.lt_of_le_of_lt Nat.and_le_right (by decide)
theorem and_lt16 {a b : Nat} (h : b < 16) : a &&& b < 16 := Nat.lt_of_le_of_lt Nat.and_le_right h
theorem or_lt16 {a b : Nat} (h : a < 16) (h' : b < 16) : a ||| b < 16 := Nat.or_lt_two_pow (n := 4) h h'
theorem valOf_or {F k v : Nat} (hv : v < 16) (hnz : flAt F k ||| v ≠ 0) : setV (valOf (flAt F)) k ((flAt F k ||| v : Nat) : Int) = valOf (flAt (flOr F k v)) := by
  funext j
  unfold setV valOf
  rw [flAt_or hv]
  by_cases hj : j = k
  · simp [hj, hnz]
  · simp [hj]

structure LSt where
  F : Nat
  hs : List Nat
  cs : List Nat
structure LPar where
  N : Nat
  lt : Nat → Nat → Bool
  par : Nat → List Nat
  skip : Nat → Bool
def lAdd (L : LPar) (cf : Nat) (x : Nat × List Nat) (p : Nat) : Nat × List Nat :=
  if flAt x.1 p &&& cf = cf then x else if L.skip p then x else (flOr x.1 p cf, hPush L.lt x.2 p)
def lStep (L : LPar) (st : LSt) : LSt :=
  let k := (hPop L.lt st.hs).1
  let hs := (hPop L.lt st.hs).2
  let c0 := flAt st.F k &&& 7
  if c0 = 3 then
    let r := (L.par k).foldl (lAdd L 7) (if flAt st.F k &&& 8 = 8 then st.F else flOr st.F k 8, hs)
    ⟨r.1, r.2, if flAt st.F k &&& 8 = 8 then st.cs else st.cs ++ [k]⟩
  else
    let r := (L.par k).foldl (lAdd L c0) (st.F, hs)
    ⟨r.1, r.2, st.cs⟩
def lRun (L : LPar) : Nat → LSt → Option LSt
  | 0, _ => none
  | f + 1, st => if hasC (flAt st.F) st.hs then (if st.hs.length < 900 ∧ st.cs.length < 900 then lRun L f (lStep L st) else none) else some st
def lInit (L : LPar) (c1 : Nat) (c2s : List Nat) : LSt :=
  let r := c2s.foldl (fun (x : Nat × List Nat) k => (flOr x.1 k 2, hPush L.lt x.2 k)) (flOr 0 c1 1, hPush L.lt [] c1)
  ⟨r.1, r.2, []⟩
def lRes (st : LSt) : List Nat := st.cs.foldl (fun rs k => if flAt st.F k &&& 4 ≠ 4 ∧ k ∉ rs then rs ++ [k] else rs) []

theorem hPush_length (lt : Nat → Nat → Bool) (hs : List Nat) (x : Nat) : (hPush lt hs x).length = hs.length + 1 := by unfold hPush; rw [hUp_length]; simp
theorem hPop_length (lt : Nat → Nat → Bool) (hs : List Nat) : (hPop lt hs).2.length = hs.length - 1 := by
  unfold hPop; split
  · rename_i h; rw [h]; rfl
  · rw [hDown_length]; simp
theorem hSwap_mem {hs : List Nat} {i j x : Nat} (hi : i < hs.length) (hj : j < hs.length) (h : x ∈ hSwap hs i j) : x ∈ hs := by
  unfold hSwap at h
  rcases List.mem_or_eq_of_mem_set h with h | h
  · rcases List.mem_or_eq_of_mem_set h with h | h
    · exact h
    · subst h; simp [hj]
  · subst h; simp [hi]
theorem hUp_mem {lt : Nat → Nat → Bool} {x : Nat} : ∀ (f : Nat) (hs : List Nat) (pos : Nat), pos < hs.length → x ∈ hUp lt f hs pos → x ∈ hs
  | 0, _, _, _, h => h
  | f + 1, hs, pos, hp, h => by
    rw [hUp] at h
    split at h
    · exact h
    · split at h
      · have := hUp_mem f _ _ (by rw [hSwap_length]; omega) h
        exact hSwap_mem (by omega) hp this
      · exact h
theorem hDown_mem {lt : Nat → Nat → Bool} {x : Nat} : ∀ (f : Nat) (hs : List Nat) (pos : Nat), pos < hs.length → x ∈ hDown lt f hs pos → x ∈ hs
  | 0, _, _, _, h => h
  | f + 1, hs, pos, hp, h => by
    rw [hDown] at h
    split at h
    · rename_i hc
      have hc' := hChild_lt (lt := lt) hc
      have := hDown_mem f _ _ (by rw [hSwap_length]; omega) h
      exact hSwap_mem hc'.2 hp this
    · exact hUp_mem _ _ _ hp h
theorem hPush_mem {lt : Nat → Nat → Bool} {hs : List Nat} {x k : Nat} (h : x ∈ hPush lt hs k) : x ∈ hs ∨ x = k := by
  have := hUp_mem _ _ _ (by simp) h
  simpa using this
theorem hPop_mem {lt : Nat → Nat → Bool} {hs : List Nat} {x : Nat} (h0 : 0 < hs.length) (h : x ∈ (hPop lt hs).2) : x ∈ hs := by
  unfold hPop at h
  split at h
  · cases h
  · rename_i h1
    have := hDown_mem _ _ _ (by simp; omega) h
    rcases List.mem_or_eq_of_mem_set this with h | h
    · exact (List.dropLast_sublist _).subset h
    · subst h
      rw [List.getD_eq_getElem?_getD, List.getElem?_eq_getElem (by omega)]
      simp
theorem hPop_fst_mem {lt : Nat → Nat → Bool} {hs : List Nat} (h0 : 0 < hs.length) : (hPop lt hs).1 ∈ hs := by
  have : hs.getD 0 0 ∈ hs := by
    rw [List.getD_eq_getElem?_getD, List.getElem?_eq_getElem h0]; simp
  unfold hPop; split <;> exact this
end

end Mine

namespace Mine
local macro_rules | `(tactic| walk_at "m:mem") => `(tactic| first | exact List.Mem.head _ | assumption | (refine List.Mem.tail _ ?_; walk_at "m:mem") | (refine List.mem_append_right _ ?_; walk_at "m:mem"))
local macro_rules | `(tactic| walk_at "m:glob") => `(tactic| first | exact n_len _ | exact n_range _ | exact n_sorted _ | exact n_abs _ | exact n_list _ | exact n_enumerate _ | k_is)
local macro_rules | `(tactic| walk_at "m:boot") => `(tactic| first | exact PySem.boot_len | exact PyProof.Rows.boot_range | exact PyProof.Rows.boot_sorted | exact PyProof.Rows.boot_abs | exact PyProof.Rows.boot_list | exact PyProof.Rows.boot_enumerate)
local macro_rules | `(tactic| walk_at "m:name") => `(tactic| first
  | (refine' w_local (by assumption) ?mhb ?_; (case mhb => exact rfl))
  | (refine' w_cell (by assumption) ?mhc ?mhm ?_; (case mhc => exact rfl); (case mhm => walk_at "m:mem"))
  | (refine' w_builtin (by assumption) ?mhe ?mhv ?_; (case mhe => walk_at "m:glob"); (case mhv => walk_at "m:boot"))
  | (refine' w_global (by assumption) ?mhe ?_; (case mhe => walk_at "m:glob"))
  | (refine' w_free (by assumption) ?mhc ?mhm ?_; (case mhc => exact rfl); (case mhm => walk_at "m:mem")))
local macro_rules | `(tactic| walk_at "m:kp") => `(tactic| first | exact kp_builtin | exact kp_type | exact kp_K (by assumption) (by k_is))
local macro_rules | `(tactic| walk_at "m:step") => `(tactic| first
  | with_reducible refine wpAny_items_nil ?_
  | ((with_reducible refine gd0 ?_); refine wpAny_items_cons ?_)
  | with_reducible refine wpAny_execs_nil ?_
  | with_reducible refine wpAny_execs_cons ?_
  | ((with_reducible refine gd1 ?_); walk_at "m:name")
  | ((with_reducible refine w_int (by assumption) ?_); intro _ _ _)
  | with_reducible refine wpAny_BinOp ?_
  | with_reducible refine PyProof.Rows.Subscript_ ?_
  | ((with_reducible refine gd2 ?_); refine w_Call ?_)
  | ((with_reducible refine gd3 ?_); refine wpAny_Compare1 ?_)
  | ((with_reducible refine gd4 ?_); refine wpAny_isTrue_Compare1 ?_)
  | with_reducible refine wpAny_truthy_bool ?_
  | with_reducible refine PyProof.Rows.gt_int ?_
  | with_reducible refine PyProof.Rows.lt_int ?_
  | with_reducible refine PyProof.Rows.eq_int ?_
  | with_reducible refine PyProof.Rows.ne_int ?_
  | ((with_reducible refine w_add (by assumption) ?_); intro _ _ _)
  | ((with_reducible refine w_sub (by assumption) ?_); intro _ _ _)
  | ((with_reducible refine w_and (by assumption) ?_); intro _ _ _)
  | ((with_reducible refine w_or (by assumption) ?_); intro _ _ _)
  | ((with_reducible refine w_neg (by assumption) ?_); intro _ _ _)
  | with_reducible refine wpAny_If ?_
  | ((with_reducible refine gd5 ?_); refine wpAny_Assign_Name ?_)
  | with_reducible refine wpAny_Return_some ?_
  | with_reducible refine wpAny_IfExp ?_
  | with_reducible refine wpAny_UnaryOp ?_
  | with_reducible refine wpAny_isTrue_Not ?_
  | with_reducible refine wpAny_Constant_none ?_
  | with_reducible refine wpAny_Constant_bool ?_
  | with_reducible refine wpAny_Continue ?_
  | with_reducible refine wpAny_Break ?_
  | with_reducible refine wpAny_isTrue_BoolOp ?_
  | with_reducible refine wpAny_allTrue_And_cons ?_
  | with_reducible refine wpAny_allTrue_And_nil ?_
  | with_reducible refine wpAny_allTrue_Or_cons ?_
  | with_reducible refine wpAny_allTrue_Or_nil ?_
  | ((with_reducible refine gd6 ?_); (refine w_store (by assumption) ?_); intro _ _)
  | (with_reducible refine PyProof.Rows.Tuple_ ?_)
  | (with_reducible refine PyProof.Rows.List_ ?_)
  | (with_reducible refine' And.intro ?mkp ?_; (case mkp => walk_at "m:kp"))
  | (with_reducible refine w_range1 (by assumption) ?_; intro _ _ _)
  | (with_reducible refine w_range2 (by assumption) ?_; intro _ _ _)
  | dsimp only)
local macro_rules | `(tactic| walk_at "m:glob") => `(tactic| first | exact n_heappush _ | exact n_heappop _)
local macro_rules | `(tactic| walk_at "m:step") => `(tactic| first
  | ((with_reducible refine gd7 ?_); refine wpAny_Expr ?_)
  | ((with_reducible refine gd8 ?_); refine Attribute_any_ ?_)
  | ((with_reducible refine gd9 ?_); (refine w_getPq (by assumption) (by walk_at "m:mem") (by walk_at "m:mem") ?_); intro _ _)
  | ((with_reducible refine gd10 ?_); refine Assign_Tuple ?_)
  | ((with_reducible refine gd11 ?_); refine plainObj_wpAny_Assign_Attribute ?_))
local macro_rules | `(tactic| walk_at "m:step") => `(tactic| first
  | ((with_reducible refine gd12 ?_); refine wpAny_isTrue_value ?_)
  | ((with_reducible refine gd13 ?_); refine wpAny_isTrue_value ?_))
local macro_rules | `(tactic| walk_at "m:kp") => `(tactic| first | exact kp_K (by assumption) (by k_is) | exact St.kpMade (by assumption) (by walk_at "m:mem") | exact St.kpLam (by assumption) (by walk_at "m:mem"))
local macro_rules | `(tactic| walk_at "m:wl") => `(tactic| first
  | refine w_methodWL (by assumption) (by walk_at "m:mem") (by walk_at "m:mem") (wl_find_iter _) (wl_fn_iter _) (wl_get_iter _) (by intro t; rfl) ?_
  | refine w_methodWL (by assumption) (by walk_at "m:mem") (by walk_at "m:mem") (wl_find_add _) (wl_fn_add _) (wl_get_add _) (by intro t; rfl) ?_
  | refine w_methodWL (by assumption) (by walk_at "m:mem") (by walk_at "m:mem") (wl_find_get _) (wl_fn_get _) (wl_get_get _) (by intro t; rfl) ?_)
local macro_rules | `(tactic| walk_at "m:step") => `(tactic| first
  | ((with_reducible refine gd14 ?_); refine MethodCall_ ?_)
  | ((with_reducible refine gd15 ?_); refine w_callW ?_)
  | ((with_reducible refine gd16 ?_); walk_at "m:wl"))

section
theorem primeLc2 : (fun (_ : OpenLaw) (_ : Params → Frag) => True) PySem.Challenge.rw_ft5005_01 hd.heap_39 := by k_fill; trivial
section
variable {X : Cx} {g : Array GenState} {s : Shared} {l l' : List Ent} {A : Around} {E : Value → Shared → Prop} {env : Env}
theorem w_Try {body orelse : List Stmt} {h₀ : ExceptHandler} {hs : List ExceptHandler} {pos : Pos} {Q : Flow → Shared → Prop}
    (h : wpAny X.M A (execs body env) (fun f s₁ => match f with | .next => wpAny X.M A (execs orelse env) Q E s₁ | f => Q f s₁) NoE s) :
    wpAny X.M A (exec (.Try body (h₀ :: hs) orelse [] pos) env) Q E s :=
  wpAny_Try_except (wpAny_mono h (fun _ _ x => x) fun _ _ e => e.elim)
theorem w_getMethodGet {d : Addr} {xs : Xs} {pl : Sem Bool} {Q : Value × List Value → Shared → Prop} (S : St X g s l) (hd : (d, DictIs X xs) ∈ l) (h : Q (.builtin "dict.get", [.ref d]) s) : wpAny X.M A (getMethod (.ref d) (Str.ofString "get") pl) Q E s := by
  obtain ⟨o, ho, ep, rfl⟩ := S.mem hd
  exact getMethod_builtin (T := "dict") ⟨_, ho, rfl⟩ PySem.F.plainAttrs_dict PySem.F.slot_dict_get PySem.F.type_dict_get (fun a e => by cases e; exact ⟨_, ho, rfl⟩) h
theorem w_getMethodAppend {D : Addr} {vs : List Value} {pl : Sem Bool} {Q : Value × List Value → Shared → Prop} (S : St X g s l) (hm : (D, ListIs vs) ∈ l) (h : Q (.builtin "list.append", [.ref D]) s) : wpAny X.M A (getMethod (.ref D) (Str.ofString "append") pl) Q E s := by
  obtain ⟨o, ho, n, rfl⟩ := S.mem hm
  exact Calls.getMethod_list_append ho rfl rfl h
theorem w_dictGet2 {D : Dag} {d a : Addr} {xs : Xs} {val : Nat → Option Int} {k : Nat} {i0 : Int} {t0 : Tok} {Q : Value → Shared → Prop} (S : St X g s l) (hm : (d, DictIs X xs) ∈ l) (hd : (d == sysModules) = false) (F : DFl D l xs val) (ha : (a, RowIs (D.row k)) ∈ l) (hk : k < D.N) (hu : A.units + 1 < cLine)
    (h : ∀ s' t, St X g s' l → Q (.int ((val k).getD i0) t) s') : wpAny X.M A (call (.builtin "dict.get") [.ref d, .ref a, .int i0 t0]) Q E s := by
  refine call_meetsIn PySem.F.slot_dict_get (S.dict hm F).typeIs PySem.F.entry_dict_get (PySem.F.args_dict_get_3 _ _ _) (meetsH_dict_get_default (tupleKind (intKind Pg X.w)) d a hd (.int i0 t0)) ⟨show A.units + 1 < cLine from hu, D.row k, xs, S.rowKey ha, S.dict hm F, ?_⟩
  have := F.at_ k hk
  cases hv : val k with
  | none =>
    rw [hv] at this h
    rw [this]
    exact h _ _ (S.tok _)
  | some i =>
    rw [hv] at this h
    obtain ⟨p, t, e⟩ := this
    rw [e]
    exact h _ _ (S.tok _)
theorem w_truthyList {D : Addr} {vs : List Value} {Q : Bool → Shared → Prop} (S : St X g s l) (hm : (D, ListIs vs) ∈ l) (hz : vs.length < 2 ^ 62) (h : ∀ s', St X g s' l → Q (!vs.isEmpty) s') : wpAny X.M A (truthy (.ref D)) Q E s := by
  refine wpAny_truthy_list (S.isList hm) (by rw [List.size_toArray]; omega) ?_
  rw [show vs.toArray.isEmpty = vs.isEmpty by cases vs <;> rfl]
  exact h _ (S.tok _)
theorem w_isNone {a : Addr} {Q : Value → Shared → Prop} (h : Q (.bool false) s) : wpAny X.M A (compareOp .Is (.ref a) .none) Q E s := wpAny_is_other rfl (fun e => nomatch e) h
theorem w_dictSetU {D : Dag} (O : D.Ok) {d a : Addr} {xs : Xs} {val : Nat → Option Int} {k : Nat} {i : Int} {t : Tok} {Q : Unit → Shared → Prop} (S : St X g s l) (F : DFl D l xs val) (ha : (a, RowIs (D.row k)) ∈ l) (hk : k < D.N) (hu : A.units + 1 < cLine)
    (U : UpdE d (DictIs X xs) (DictIs X (storedH xs (D.row k) a (.int i t))) l l')
    (h : ∀ s', St X g s' l' → DFl D l' (storedH xs (D.row k) a (.int i t)) (setV val k i) → Q () s') : wpAny X.M A (setItem (.ref d) (.ref a) (.int i t)) Q E s := by
  refine wpAny_setItem_heap (knd := tupleKind (intKind Pg X.w)) (k := D.row k) hu (S.rowKey ha) (S.dict U.mem F) (fun h' hm' hs' => h _ ?_ ((F.stored O hk ha).sees (Sees.upd NoTup.dict U))) (by have := F.len; have := O.small; rw [sizeLine_eq]; omega)
  obtain ⟨o, es, ep, ho, ⟨hc, hdct, hsl⟩, hdat, hes, _, _⟩ := hm'
  refine S.updB (t := s.toks + (tupleKind (intKind Pg X.w)).draws (D.row k)) U hs' ho ⟨ep, ?_⟩
  obtain ⟨c1, c2, c3, c4⟩ := o
  simp only at hc hdct hsl hdat
  subst hc hdct hsl hdat
  rw [← hes]
end
theorem permIdx {es l : List Ent} (p : List Nat) (h : p.isPerm (List.range es.length) = true) : (es ++ l).Perm (p.map (fun i => es.getD i (0, fun _ => True)) ++ l) := by
  have hp := List.isPerm_iff.mp h
  have h2 := hp.map fun i => es.getD i (0, fun _ => True)
  have h3 : (List.range es.length).map (fun i => es.getD i (0, fun _ => True)) = es := by
    apply List.ext_getElem
    · simp
    · intro i h1 h2; simp at h1 h2 ⊢; simp [h1]
  rw [h3] at h2
  exact (h2.symm).append_right l

theorem execs_two {M : Model} {A : Around} {E : Value → Shared → Prop} {s : Shared} {env : Env} {a b : Stmt} {rest : List Stmt} {Q : Flow → Shared → Prop} (I : Shared → Prop) (h : wpAny M A (exec a env) (fun f s1 => f = .next ∧ wpAny M A (exec b env) (fun f s2 => f = .next ∧ I s2) E s1) E s)
    (h2 : ∀ s2, I s2 → wpAny M A (execs rest env) Q E s2) : wpAny M A (execs (a :: b :: rest) env) Q E s := by
  refine wpAny_execs_cons (wpAny_mono h (fun f s1 h1 => ?_) fun _ _ e => e)
  obtain ⟨rfl, h1⟩ := h1
  refine wpAny_execs_cons (wpAny_mono h1 (fun f s2 h3 => ?_) fun _ _ e => e)
  obtain ⟨rfl, h3⟩ := h3
  exact h2 _ h3
theorem execs_one {M : Model} {A : Around} {E : Value → Shared → Prop} {s : Shared} {env : Env} {a : Stmt} {rest : List Stmt} {Q : Flow → Shared → Prop} (I : Shared → Prop) (h : wpAny M A (exec a env) (fun f s1 => f = .next ∧ I s1) E s)
    (h2 : ∀ s2, I s2 → wpAny M A (execs rest env) Q E s2) : wpAny M A (execs (a :: rest) env) Q E s := by
  refine wpAny_execs_cons (wpAny_mono h (fun f s1 h1 => ?_) fun _ _ e => e)
  obtain ⟨rfl, h1⟩ := h1
  exact h2 _ h1

theorem flAt_or_nz {F k v j : Nat} (hv : v < 16) (h : flAt F j ≠ 0) : flAt (flOr F k v) j ≠ 0 := by
  rw [flAt_or hv]
  split
  · rename_i e; subst e
    have := (Nat.left_le_or : flAt F j ≤ flAt F j ||| v)
    omega
  · exact h
theorem or_nz {a b : Nat} (h : a ≠ 0) : a ||| b ≠ 0 := by have := (Nat.left_le_or : a ≤ a ||| b); omega
theorem or_nz' {a b : Nat} (h : b ≠ 0) : a ||| b ≠ 0 := by have := (Nat.right_le_or : b ≤ a ||| b); omega
theorem flAt_or_self {F k v : Nat} (hv : v < 16) (h : v ≠ 0) : flAt (flOr F k v) k ≠ 0 := by
  rw [flAt_or hv, if_pos rfl]; exact or_nz' h

theorem permNew {new es l : List Ent} : (new ++ (es ++ l)).Perm (es ++ (new ++ l)) := by
  rw [← List.append_assoc, ← List.append_assoc]; exact List.perm_append_comm.append_right l

theorem valOf_getD (fl : Nat → Nat) (k : Nat) : (valOf fl k).getD 0 = (fl k : Int) := by
  unfold valOf; split
  · rename_i h; rw [h]; rfl
  · rfl
theorem fold_take {L : LPar} {cf : Nat} {x : Nat × List Nat} {ps : List Nat} {i p : Nat} (h : ps[i]? = some p) : (ps.take (i + 1)).foldl (lAdd L cf) x = lAdd L cf ((ps.take i).foldl (lAdd L cf) x) p := by
  rw [List.take_add_one, h, List.foldl_append]; rfl

theorem valOf_zero : valOf (flAt 0) = fun _ => none := by
  funext k
  have : flAt 0 k = 0 := by simp [flAt]
  simp [valOf, this]
theorem valOf_first (k : Nat) : setV (fun _ => none) k 1 = valOf (flAt (flOr 0 k 1)) := by
  have h := valOf_or (F := 0) (k := k) (v := 1) (by decide) (or_nz' (by decide))
  have h0 : flAt 0 k = 0 := by simp [flAt]
  rw [valOf_zero, h0] at h
  exact h
abbrev cStep (L : LPar) : Nat × List Nat → Nat → Nat × List Nat := fun x k => (flOr x.1 k 2, hPush L.lt x.2 k)
theorem cfold_take {L : LPar} {x : Nat × List Nat} {ps : List Nat} {i p : Nat} (h : ps[i]? = some p) : (ps.take (i + 1)).foldl (cStep L) x = cStep L ((ps.take i).foldl (cStep L) x) p := by
  rw [List.take_add_one, h, List.foldl_append]; rfl
end

end Mine

namespace Mine
local macro_rules | `(tactic| walk_at "m:mem") => `(tactic| first | exact List.Mem.head _ | assumption | (refine List.Mem.tail _ ?_; walk_at "m:mem") | (refine List.mem_append_right _ ?_; walk_at "m:mem"))
local macro_rules | `(tactic| walk_at "m:glob") => `(tactic| first | exact n_len _ | exact n_range _ | exact n_sorted _ | exact n_abs _ | exact n_list _ | exact n_enumerate _ | k_is)
local macro_rules | `(tactic| walk_at "m:boot") => `(tactic| first | exact PySem.boot_len | exact PyProof.Rows.boot_range | exact PyProof.Rows.boot_sorted | exact PyProof.Rows.boot_abs | exact PyProof.Rows.boot_list | exact PyProof.Rows.boot_enumerate)
local macro_rules | `(tactic| walk_at "m:name") => `(tactic| first
  | (refine' w_local (by assumption) ?mhb ?_; (case mhb => exact rfl))
  | (refine' w_cell (by assumption) ?mhc ?mhm ?_; (case mhc => exact rfl); (case mhm => walk_at "m:mem"))
  | (refine' w_builtin (by assumption) ?mhe ?mhv ?_; (case mhe => walk_at "m:glob"); (case mhv => walk_at "m:boot"))
  | (refine' w_global (by assumption) ?mhe ?_; (case mhe => walk_at "m:glob"))
  | (refine' w_free (by assumption) ?mhc ?mhm ?_; (case mhc => exact rfl); (case mhm => walk_at "m:mem")))
local macro_rules | `(tactic| walk_at "m:kp") => `(tactic| first | exact kp_builtin | exact kp_type | exact kp_K (by assumption) (by k_is))
local macro_rules | `(tactic| walk_at "m:step") => `(tactic| first
  | with_reducible refine wpAny_items_nil ?_
  | ((with_reducible refine gd0 ?_); refine wpAny_items_cons ?_)
  | with_reducible refine wpAny_execs_nil ?_
  | with_reducible refine wpAny_execs_cons ?_
  | ((with_reducible refine gd1 ?_); walk_at "m:name")
  | ((with_reducible refine w_int (by assumption) ?_); intro _ _ _)
  | with_reducible refine wpAny_BinOp ?_
  | with_reducible refine PyProof.Rows.Subscript_ ?_
  | ((with_reducible refine gd2 ?_); refine w_Call ?_)
  | ((with_reducible refine gd3 ?_); refine wpAny_Compare1 ?_)
  | ((with_reducible refine gd4 ?_); refine wpAny_isTrue_Compare1 ?_)
  | with_reducible refine wpAny_truthy_bool ?_
  | with_reducible refine PyProof.Rows.gt_int ?_
  | with_reducible refine PyProof.Rows.lt_int ?_
  | with_reducible refine PyProof.Rows.eq_int ?_
  | with_reducible refine PyProof.Rows.ne_int ?_
  | ((with_reducible refine w_add (by assumption) ?_); intro _ _ _)
  | ((with_reducible refine w_sub (by assumption) ?_); intro _ _ _)
  | ((with_reducible refine w_and (by assumption) ?_); intro _ _ _)
  | ((with_reducible refine w_or (by assumption) ?_); intro _ _ _)
  | ((with_reducible refine w_neg (by assumption) ?_); intro _ _ _)
  | with_reducible refine wpAny_If ?_
  | ((with_reducible refine gd5 ?_); refine wpAny_Assign_Name ?_)
  | with_reducible refine wpAny_Return_some ?_
  | with_reducible refine wpAny_IfExp ?_
  | with_reducible refine wpAny_UnaryOp ?_
  | with_reducible refine wpAny_isTrue_Not ?_
  | with_reducible refine wpAny_Constant_none ?_
  | with_reducible refine wpAny_Constant_bool ?_
  | with_reducible refine wpAny_Continue ?_
  | with_reducible refine wpAny_Break ?_
  | with_reducible refine wpAny_isTrue_BoolOp ?_
  | with_reducible refine wpAny_allTrue_And_cons ?_
  | with_reducible refine wpAny_allTrue_And_nil ?_
  | with_reducible refine wpAny_allTrue_Or_cons ?_
  | with_reducible refine wpAny_allTrue_Or_nil ?_
  | ((with_reducible refine gd6 ?_); (refine w_store (by assumption) ?_); intro _ _)
  | (with_reducible refine PyProof.Rows.Tuple_ ?_)
  | (with_reducible refine PyProof.Rows.List_ ?_)
  | (with_reducible refine' And.intro ?mkp ?_; (case mkp => walk_at "m:kp"))
  | (with_reducible refine w_range1 (by assumption) ?_; intro _ _ _)
  | (with_reducible refine w_range2 (by assumption) ?_; intro _ _ _)
  | dsimp only)
local macro_rules | `(tactic| walk_at "m:glob") => `(tactic| first | exact n_heappush _ | exact n_heappop _)
local macro_rules | `(tactic| walk_at "m:step") => `(tactic| first
  | ((with_reducible refine gd7 ?_); refine wpAny_Expr ?_)
  | ((with_reducible refine gd8 ?_); refine Attribute_any_ ?_)
  | ((with_reducible refine gd9 ?_); (refine w_getPq (by assumption) (by walk_at "m:mem") (by walk_at "m:mem") ?_); intro _ _)
  | ((with_reducible refine gd10 ?_); refine Assign_Tuple ?_)
  | ((with_reducible refine gd11 ?_); refine plainObj_wpAny_Assign_Attribute ?_))
local macro_rules | `(tactic| walk_at "m:step") => `(tactic| first
  | ((with_reducible refine gd12 ?_); refine wpAny_isTrue_value ?_)
  | ((with_reducible refine gd13 ?_); refine wpAny_isTrue_value ?_))
local macro_rules | `(tactic| walk_at "m:kp") => `(tactic| first | exact kp_K (by assumption) (by k_is) | exact St.kpMade (by assumption) (by walk_at "m:mem") | exact St.kpLam (by assumption) (by walk_at "m:mem"))
local macro_rules | `(tactic| walk_at "m:wl") => `(tactic| first
  | refine w_methodWL (by assumption) (by walk_at "m:mem") (by walk_at "m:mem") (wl_find_iter _) (wl_fn_iter _) (wl_get_iter _) (by intro t; rfl) ?_
  | refine w_methodWL (by assumption) (by walk_at "m:mem") (by walk_at "m:mem") (wl_find_add _) (wl_fn_add _) (wl_get_add _) (by intro t; rfl) ?_
  | refine w_methodWL (by assumption) (by walk_at "m:mem") (by walk_at "m:mem") (wl_find_get _) (wl_fn_get _) (wl_get_get _) (by intro t; rfl) ?_)
local macro_rules | `(tactic| walk_at "m:step") => `(tactic| first
  | ((with_reducible refine gd14 ?_); refine MethodCall_ ?_)
  | ((with_reducible refine gd15 ?_); refine w_callW ?_)
  | ((with_reducible refine gd16 ?_); walk_at "m:wl"))
local macro_rules | `(tactic| walk_at "m:step") => `(tactic| first
  | ((with_reducible refine gd17 ?_); refine w_Try ?_)
  | ((with_reducible refine gd18 ?_); refine w_getMethodGet (by assumption) (by walk_at "m:mem") ?_)
  | ((with_reducible refine gd18 ?_); refine w_getMethodAppend (by assumption) (by walk_at "m:mem") ?_)
  | ((with_reducible refine gd19 ?_); refine w_isNone ?_)
  | ((with_reducible refine gd20 ?_); refine wpAny_Assign_Subscript ?_)
  | ((with_reducible refine gd21 ?_); simp only [List.cons_append, List.nil_append])
  | ((with_reducible refine gd22 ?_); simp only [List.cons_append, List.nil_append]))

section
theorem primeWhile : (fun (_ : OpenLaw) (_ : Params → Frag) => True) PySem.Challenge.rw_ft5005_01 hd.heap_39 := by k_fill; trivial
structure LcCx where
  X : Cx
  D : Dag
  P : LPar
  fU : Addr
  fC : Addr
  fH : Addr
  W : Addr
  dx : Addr
  d : Addr
  Dl : Addr
  Cd : Addr
  L : Addr
  cD : Addr
  m : Int
  tm : Tok
  t1 : Tok
  t2 : Tok
  t4 : Tok
  t8 : Tok
  l : List Ent
def LcCx.b (C : LcCx) : List (Str × Value) := [(Str.ofString "lookup_parents", .ref C.fU), (Str.ofString "lookup_stamp", .ref C.fC), (Str.ofString "min_stamp", .int C.m C.tm), (Str.ofString "shallows", .none), (Str.ofString "cands", .ref C.Cd), (Str.ofString "cstates", .ref C.d),
  (Str.ofString "_ANC_OF_1", .int 1 C.t1), (Str.ofString "_ANC_OF_2", .int 2 C.t2), (Str.ofString "_LCA", .int 8 C.t8), (Str.ofString "_has_candidates", .ref C.fH), (Str.ofString "wlst", .ref C.W)]
structure LcCx.Ok (C : LcCx) : Prop where
  dOk : C.D.Ok
  ltOk : C.D.LtOk
  ltEq : C.P.lt = C.D.lt
  parN : ∀ k, k < C.D.N → ∀ p ∈ C.P.par k, p < C.D.N
  parL : ∀ k, k < C.D.N → (C.P.par k).length ≤ 24
  skip : ∀ k, k < C.D.N → C.P.skip k = decide (C.D.st k < C.m)
  hW : (C.W, InstIs 80 C.dx) ∈ C.l
  hdx : (C.dx, AttrIs C.Dl) ∈ C.l
  hcD : (C.cD, CellHas (some (.int 4 C.t4))) ∈ C.l
  hd1 : (C.d == sysModules) = false
  kpU : ∀ {g s l'}, C.l ⊆ l' → St C.X g s l' → Kp C.X (.ref C.fU) s.heap
  kpC : ∀ {g s l'}, C.l ⊆ l' → St C.X g s l' → Kp C.X (.ref C.fC) s.heap
  kpH : ∀ {g s l'}, C.l ⊆ l' → St C.X g s l' → Kp C.X (.ref C.fH) s.heap
  up : ∀ {A : Around} {g s l' Lf bf a k} {E : Value → Shared → Prop} {Q : Value → Shared → Prop}, C.l ⊆ l' → St C.X g s ((Lf, NsHas bf) :: l') → Rm A 40 → (a, RowIs (C.D.row k)) ∈ l' → k < C.D.N →
    (∀ p vs new s', St C.X g s' ((Lf, NsHas bf) :: (p, ListIs vs) :: (new ++ l')) → All2 (RowV C.D (new ++ l')) vs (C.P.par k) → Q (.ref p) s') → wpAny C.X.M A (call (.ref C.fU) [.ref a] []) Q E s
  clock : ∀ {A : Around} {g s l' f0 a k} {E : Value → Shared → Prop} {Q : Value → Shared → Prop}, C.l ⊆ l' → St C.X g s (f0 :: l') → Rm A 40 → (a, RowIs (C.D.row k)) ∈ l' → k < C.D.N →
    (∀ s' t, St C.X g s' (f0 :: l') → Q (.int (C.D.st k) t) s') → wpAny C.X.M A (call (.ref C.fC) [.ref a] []) Q E s
  has : ∀ {A : Around} {g s l' f0 vs hs xs} {fl : Nat → Nat} {E : Value → Shared → Prop} {Q : Value → Shared → Prop}, C.l ⊆ l' → St C.X g s (f0 :: l') → Rm A 40 → AllBare g → (C.Dl, ListIs vs) ∈ l' → All2 (PairV C.D (-·) l') vs hs → (C.d, DictIs C.X xs) ∈ l' → DFl C.D l' xs (valOf fl) →
    (∀ s' g', AllBare g' → St C.X g' s' (f0 :: l') → Q (.bool (hasC fl hs)) s') → wpAny C.X.M A (call (.ref C.fH) [.ref C.W, .ref C.d] []) Q E s
/-- the state between two turns -/
def LcCx.At (C : LcCx) (b : List (Str × Value)) (st : LSt) (g : Array GenState) (s : Shared) : Prop := ∃ xs vs cvs l', St C.X g s ((C.L, NsHas b) :: (C.d, DictIs C.X xs) :: (C.Dl, ListIs vs) :: (C.Cd, ListIs cvs) :: l') ∧ C.l <:+ l' ∧ DFl C.D l' xs (valOf (flAt st.F)) ∧
  All2 (PairV C.D (-·) l') vs st.hs ∧ All2 (PairV C.D id l') cvs st.cs ∧ AllBare g ∧ (∀ k ∈ st.hs, flAt st.F k ≠ 0) ∧ (∀ k ∈ st.cs, flAt st.F k ≠ 0)
def FnAt90' (P : Params) (body : List Stmt) (qual : Str) (scope : Scope) (cdv : Value) : Prop := ∃ oc od name params dV kV doc pm an ct osl, (hd.heap_39 P).lookup 90 = some ⟨oc, od, .func (fnOf name qual params body scope dV kV doc pm an cdv ct), osl⟩
theorem fn90' (P : Params) {oc od name qual params body scope dV kV doc pm an cdv ct osl} (h : (hd.heap_39 P).lookup 90 = some ⟨oc, od, .func (fnOf name qual params body scope dV kV doc pm an cdv ct), osl⟩)
   {oc' od' name' qual' params' body' scope' dV' kV' doc' pm' an' cdv' ct' osl'} (h' : (hd.heap_39 P).lookup 90 = some ⟨oc', od', .func (fnOf name' qual' params' body' scope' dV' kV' doc' pm' an' cdv' ct'), osl'⟩) : body = body' ∧ qual = qual' ∧ scope = scope' ∧ cdv = cdv' := by
  rw [h] at h'; injection h' with h'; injection h' with _ _ h' _; injection h' with h'; unfold fnOf at h'; injection h' with _ h2 _ h4 h5 _ _ _ _ _ _ _ h6; injection h4 with h4; exact ⟨h4, h2, h5, h6⟩
section
variable {X : Cx} {g : Array GenState} {s : Shared} {l l' : List Ent} {A : Around} {E : Value → Shared → Prop} {env : Env}
theorem lc_while (C : LcCx) (O : C.Ok) {body : List Stmt} {qual : Str} {scope : Scope} {cdv : Value} (hb90 : FnAt90' C.X.w.params body qual scope cdv) {st : Stmt} (hst : body[11]? = some st) {n : Nat} {st0 stF : LSt} (R : Rm A 45)
    {Q : Flow → Shared → Prop} (h0 : C.At C.b st0 g s) (hrun : lRun C.P n st0 = some stF) (h : ∀ g' s', C.At C.b stF g' s' → Q .next s') : wpAny C.X.M A (exec st (envX qual scope C.L 90 cdv [(Str.ofString "_DNC", C.cD)])) Q E s := by
  obtain ⟨oc, od, name, params, dV, kV, doc, pm, an, ct, osl, h90⟩ := hb90
  obtain ⟨rfl, rfl, rfl, rfl⟩ := fn90' _ h90 (by k_is)
  cases hst
  refine w_While (fun n s => ∃ st g, lRun C.P n st = some stF ∧ C.At C.b st g s) n ⟨st0, g, hrun, h0⟩ ?_
  rintro n s1 ⟨st, g1, hr, xs, vs, cvs, l', S1, hls, F, hvs, hcs, hbare, hnz, hcz⟩
  clear h90 h0 hrun
  have hl := hls.subset
  obtain _ | n := n
  · cases hr
  rw [lRun] at hr
  have hWl := hl O.hW
  have hdxl := hl O.hdx
  have hcDl := hl O.hcD
  have sub4 : ∀ {a b c d : Ent}, C.l ⊆ a :: b :: c :: d :: l' := fun {a b c d} e he => .tail _ (.tail _ (.tail _ (.tail _ (hl he))))
  have sub3 : ∀ {a b c : Ent}, C.l ⊆ a :: b :: c :: l' := fun {a b c} e he => .tail _ (.tail _ (.tail _ (hl he)))
  have up3 : ∀ {a b c : Ent}, l' ⊆ a :: b :: c :: l' := fun {a b c} e he => .tail _ (.tail _ (.tail _ he))
  repeat' walk_at "m:step"
  refine ⟨O.kpH sub4 S1, ?_⟩
  refine O.has sub3 S1 (R.le (by omega)) hbare (.tail _ (.head _)) (hvs.mono fun _ _ hx => hx.mono up3) (.head _) (F.sees (.of_sub up3)) fun s2 g2 hb2 S2 => ?_
  clear S1
  repeat' walk_at "m:step"
  cases hh : hasC (flAt st.F) st.hs with
  | false =>
    rw [hh] at hr
    simp only [Bool.false_eq_true, if_false] at hr ⊢
    cases hr
    exact h _ _ ⟨xs, vs, cvs, l', S2, hls, F, hvs, hcs, hb2, hnz, hcz⟩
  | true =>
    rw [hh] at hr
    simp only [if_true] at hr ⊢
    by_cases hz : st.hs.length < 900 ∧ st.cs.length < 900
    case neg => rw [if_neg hz] at hr; cases hr
    rw [if_pos hz] at hr
    have hpos : 0 < st.hs.length := by
      cases e : st.hs with
      | nil => rw [e] at hh; simp [hasC] at hh
      | cons _ _ => simp
    repeat' walk_at "m:step"
    have S3 : St C.X g2 s2 ((C.Dl, ListIs vs) :: (C.L, NsHas C.b) :: (C.d, DictIs C.X xs) :: (C.Cd, ListIs cvs) :: l') := S2.perm (permIdx (es := [_, _, _]) [2, 0, 1] (by kernel_rfl))
    have hk0 := hPop_fst_mem (lt := C.D.lt) hpos
    have hkm := fun x => hPop_mem (lt := C.D.lt) (x := x) hpos
    have hkl := hPop_length C.D.lt st.hs
    refine c_get O.ltOk (l₀ := l') up3 S3 (R.le (by omega)) (up3 hWl) (up3 hdxl) hvs hpos (by omega) fun vs4 s4 q a S4 ha hkN hv4 => ?_
    have hst : lStep C.P st = lStep C.P st := rfl
    unfold lStep at hr
    rw [O.ltEq] at hr
    generalize hPop C.D.lt st.hs = kh at *
    obtain ⟨k, hs4⟩ := kh
    dsimp only at *
    have S5 : St C.X g2 s4 ((C.L, NsHas C.b) :: (C.d, DictIs C.X xs) :: (C.Dl, ListIs vs4) :: (C.Cd, ListIs cvs) :: (q, PairIs (C.D.st k) a) :: l') := S4.perm (permIdx (es := [_, _, _, _, _]) [2, 3, 0, 4, 1] (by kernel_rfl))
    clear S4 S3 S2
    repeat' walk_at "m:step"
    rw [if_neg (by decide)]
    repeat' walk_at "m:step"
    rename St _ _ _ _ => S6
    obtain ⟨tq, htq⟩ := S6.isPair (.tail _ (.tail _ (.tail _ (.tail _ (.head _)))))
    refine w_unpack2 S6 R.hh htq fun s7 S7 => ?_
    clear S6 S5 htq
    have hl5 : C.l ⊆ (q, PairIs (C.D.st k) a) :: l' := fun e he => .tail _ (hl he)
    have F5 : DFl C.D ((q, PairIs (C.D.st k) a) :: l') xs (valOf (flAt st.F)) := F.sees (.of_sub (List.subset_cons_self _ _))
    have hk1 := hnz k hk0
    have hv0 : valOf (flAt st.F) k = some (flAt st.F k : Int) := if_neg hk1
    have e7 : Builtin.bitAnd (flAt st.F k : Int) (Builtin.bitOr (Builtin.bitOr 1 2) 4) = ((flAt st.F k &&& 7 : Nat) : Int) := by
      rw [show Builtin.bitOr (Builtin.bitOr 1 2) 4 = ((7 : Nat) : Int) from rfl, and_nat]
    have e3 : Builtin.bitOr 1 2 = ((3 : Nat) : Int) := rfl
    refine execs_two (fun s' => ∃ F' cs' cf tc xs' cvs' l5, lRun C.P n ⟨((C.P.par k).foldl (lAdd C.P cf) (F', hs4)).1, ((C.P.par k).foldl (lAdd C.P cf) (F', hs4)).2, cs'⟩ = some stF ∧ cf < 16 ∧ (∀ j, flAt st.F j ≠ 0 → flAt F' j ≠ 0) ∧ (∀ j ∈ cs', flAt F' j ≠ 0) ∧
      l' <:+ l5 ∧ St C.X g2 s' ((C.L, NsHas ((Str.ofString "cflags", .int (cf : Nat) tc) :: (Str.ofString "cmt", .ref a) :: C.b)) :: (C.d, DictIs C.X xs') :: (C.Dl, ListIs vs4) :: (C.Cd, ListIs cvs') :: l5) ∧ DFl C.D l5 xs' (valOf (flAt F')) ∧ All2 (PairV C.D id l5) cvs' cs') ?_ ?_
    · repeat' walk_at "m:step"
      refine w_dictTail S7 (.tail _ (.head _)) (F5.sees (.of_sub (fun e he => .tail _ (.tail _ (.tail _ (.tail _ he)))))) (.tail _ (.tail _ (.tail _ (.tail _ (.tail _ ha))))) hkN hv0 R.u1 fun s8 t8 S8 => ?_
      clear S7
      repeat' walk_at "m:step"
      rename St _ _ _ _ => S9
      rw [e7] at S9
      refine ⟨rfl, ?_⟩
      repeat' walk_at "m:step"
      rw [e3]
      have wkb : ∀ {cf : Nat} {tc : Tok}, ∀ p ∈ (Str.ofString "cflags", .int (cf : Nat) tc) :: (Str.ofString "cmt", .ref a) :: C.b,
          ((Str.ofString "cflags", Value.int (cf : Nat) tc) :: (Str.ofString "cmt", Value.ref a) :: (Str.ofString "dt", Value.int (C.D.st k) tq) :: (Str.ofString "result", Value.ref q) :: C.b).lookup p.1 = some p.2 := by
        intro cf tc p hp
        simp only [LcCx.b, List.mem_cons, List.not_mem_nil, or_false] at hp
        rcases hp with rfl | rfl | rfl | rfl | rfl | rfl | rfl | rfl | rfl | rfl | rfl | rfl | rfl <;> rfl
      have wkb2 : ∀ {cf c0 : Nat} {tc t0 : Tok}, ∀ p ∈ (Str.ofString "cflags", .int (cf : Nat) tc) :: (Str.ofString "cmt", .ref a) :: C.b,
          ((Str.ofString "cflags", Value.int (cf : Nat) tc) :: (Str.ofString "cflags", Value.int (c0 : Nat) t0) :: (Str.ofString "cmt", Value.ref a) :: (Str.ofString "dt", Value.int (C.D.st k) tq) :: (Str.ofString "result", Value.ref q) :: C.b).lookup p.1 = some p.2 := by
        intro cf c0 tc t0 p hp
        simp only [LcCx.b, List.mem_cons, List.not_mem_nil, or_false] at hp
        rcases hp with rfl | rfl | rfl | rfl | rfl | rfl | rfl | rfl | rfl | rfl | rfl | rfl | rfl <;> rfl
      have sub5 : ∀ {a b c d e : Ent}, l' ⊆ a :: b :: c :: d :: e :: l' := fun {a b c d e} x hx => .tail _ (.tail _ (.tail _ (.tail _ (.tail _ hx))))
      have sub4' : ∀ {a b c d : Ent} {m : List Ent}, m ⊆ a :: b :: c :: d :: m := fun {a b c d m} x hx => .tail _ (.tail _ (.tail _ (.tail _ hx)))
      have up1 : l' ⊆ (q, PairIs (C.D.st k) a) :: l' := List.subset_cons_self _ _
      by_cases hc : flAt st.F k &&& 7 = 3
      · rw [if_pos (by rw [hc]; rfl)]
        rw [if_pos hc] at hr
        repeat' walk_at "m:step"
        refine w_dictTail (by assumption) (.tail _ (.head _)) (F5.sees (.of_sub sub4')) (sub5 ha) hkN hv0 R.u1 fun s10 t10 S10 => ?_
        repeat' walk_at "m:step"
        have e8 : (Builtin.bitAnd (flAt st.F k : Int) 8 == 8) = decide (flAt st.F k &&& 8 = 8) := by
          rw [show (8 : Int) = ((8 : Nat) : Int) from rfl, and_nat]
          by_cases e : flAt st.F k &&& 8 = 8
          · rw [e]; rfl
          · rw [decide_eq_false e, beq_eq_false_iff_ne]
            exact fun q => e (by exact_mod_cast q)
        rw [e8]
        have e37 : Builtin.bitOr ((flAt st.F k &&& 7 : Nat) : Int) 4 = ((7 : Nat) : Int) := by rw [hc]; rfl
        by_cases h8 : flAt st.F k &&& 8 = 8
        · simp only [h8, decide_true, Bool.not_true, Bool.false_eq_true, if_false]
          simp only [h8, if_true] at hr
          repeat' walk_at "m:step"
          rename St _ _ _ _ => S11
          rw [e37] at S11
          exact ⟨rfl, st.F, st.cs, 7, _, xs, cvs, _, hr, by decide, fun _ h => h, hcz, List.suffix_cons _ _, S11.wk .here (NsHas.wk wkb2), F5, hcs.mono fun _ _ hx => hx.mono up1⟩
        · simp only [h8, decide_false, Bool.not_false, if_true]
          simp only [h8, if_false] at hr
          repeat' walk_at "m:step"
          refine w_dictTail (by assumption) (.tail _ (.head _)) (F5.sees (.of_sub sub4')) (sub5 ha) hkN hv0 R.u1 fun s11 t11 S11 => ?_
          repeat' walk_at "m:step"
          rw [show Builtin.bitOr (flAt st.F k : Int) 8 = ((flAt st.F k ||| 8 : Nat) : Int) from or_nat _ 8]
          rename St _ _ _ _ => S12
          refine w_dictSetU O.dOk S12 (F5.sees (.of_sub sub4')) (sub5 ha) hkN R.u1 (.there .here) fun s13 S13 _ => ?_
          clear S12
          repeat' walk_at "m:step"
          refine w_newTuple S13 (by rw [sizeLine_eq]; simp) fun q2 s14 S14 => ?_
          replace S14 := S14.wk (P' := PairIs (C.D.st k) a) (.there .here) (fun o h => ⟨_, h⟩)
          clear S13
          repeat' walk_at "m:step"
          refine w_append S14 (.there (.there (.there (.there .here)))) (by rw [hcs.length, sizeLine_eq]; omega) fun s15 S15 => ?_
          clear S14
          dsimp only
          repeat' walk_at "m:step"
          rename St _ _ _ _ => S16
          rw [e37] at S16
          refine ⟨rfl, flOr st.F k 8, st.cs ++ [k], 7, _, _, _, (q2, PairIs (C.D.st k) a) :: (q, PairIs (C.D.st k) a) :: l', hr, by decide, fun _ h => flAt_or_nz (by decide) h, ?_, (List.suffix_cons _ _).trans (List.suffix_cons _ _), (S16.wk .here (NsHas.wk wkb2)).perm (permIdx (es := [_, _, _, _, _]) [0, 2, 3, 4, 1] (by kernel_rfl)), ?_, ?_⟩
          · intro j hj
            rcases List.mem_append.mp hj with hj | hj
            · exact flAt_or_nz (by decide) (hcz j hj)
            · rcases List.mem_singleton.mp hj with rfl
              exact flAt_or_nz (by decide) hk1
          · rw [← valOf_or (by decide) (or_nz hk1)]
            exact (F5.stored O.dOk hkN (up1 ha)).sees (.of_sub (List.subset_cons_self _ _))
          · exact (hcs.mono fun _ _ hx => hx.mono fun _ hx => .tail _ (.tail _ hx)).append (.cons ⟨q2, a, rfl, hkN, .head _, .tail _ (.tail _ ha)⟩ .nil)
      · rw [if_neg (by intro e; exact hc (by have := eq_of_beq e; exact_mod_cast this))]
        rw [if_neg hc] at hr
        repeat' walk_at "m:step"
        rename St _ _ _ _ => S10
        refine ⟨rfl, st.F, st.cs, flAt st.F k &&& 7, _, xs, cvs, _, hr, Nat.lt_of_le_of_lt Nat.and_le_right (by decide), fun _ h => h, hcz, List.suffix_cons _ _, S10.wk .here (NsHas.wk wkb), F5, hcs.mono fun _ _ hx => hx.mono up1⟩
    · rintro s8 ⟨F', cs', cf, tc, xs', cvs', l5, hr', hcf, hmono, hcz', hls5, S8, F8, hcs'⟩
      have hl5' := hls5.subset
      have hC5 : C.l ⊆ l5 := fun e he => hl5' (hl he)
      have up3' : ∀ {a b c : Ent}, l5 ⊆ a :: b :: c :: l5 := fun {a b c} e he => .tail _ (.tail _ (.tail _ he))
      clear hr F5 F hcs
      repeat' walk_at "m:step"
      refine ⟨O.kpU (fun e he => .tail _ (up3' (hC5 he))) S8, ?_⟩
      refine O.up (fun e he => up3' (hC5 he)) S8 (R.le (by omega)) (up3' (hl5' ha)) hkN fun p pvs new s9 S9 hpv => ?_
      have S10 : St C.X g2 s9 ((C.L, NsHas ((Str.ofString "cflags", .int (cf : Nat) tc) :: (Str.ofString "cmt", .ref a) :: C.b)) :: (C.d, DictIs C.X xs') :: (C.Dl, ListIs vs4) :: (C.Cd, ListIs cvs') :: (p, ListIs pvs) :: (new ++ l5)) :=
        (S9.perm (((permNew (new := new) (es := [(C.d, DictIs C.X xs'), (C.Dl, ListIs vs4), (C.Cd, ListIs cvs')]) (l := l5)).cons _).cons _)).perm (permIdx (es := [_, _, _, _, _]) [0, 2, 3, 4, 1] (by kernel_rfl))
      have hsee : Sees (new ++ ((C.d, DictIs C.X xs') :: (C.Dl, ListIs vs4) :: (C.Cd, ListIs cvs') :: l5)) (new ++ l5) :=
        (Sees.of_sub (permNew (new := new) (es := [(C.d, DictIs C.X xs'), (C.Dl, ListIs vs4), (C.Cd, ListIs cvs')]) (l := l5)).subset).trans (Sees.drop NoTup.dict (Sees.drop NoTup.list (Sees.drop NoTup.list (Sees.refl _))))
      have hpv' := hpv.mono fun _ _ hx => hx.sees hsee
      have l65 : l5 ⊆ new ++ l5 := List.subset_append_right _ _
      have F10 := F8.sees (.of_sub l65)
      have hcs10 := hcs'.mono fun _ _ hx => hx.mono l65
      have hvs10 := hv4.mono fun _ _ hx => hx.mono (fun _ hx => l65 (hl5' hx))
      have hC6 : C.l <:+ new ++ l5 := (hls.trans hls5).trans (List.suffix_append _ _)
      generalize new ++ l5 = l6 at *
      clear S9 S8 hpv hsee F8 hcs'
      repeat' walk_at "m:step"
      rename St _ _ _ _ => S11
      have hpl := O.parL k hkN
      refine w_truthyList S11 (.tail _ (.tail _ (.tail _ (.tail _ (.head _))))) (by rw [hpv'.length]; omega) fun s12 S12 => ?_
      clear S11 S10
      have fin : ∀ {F'' : Nat} {hs'' : List Nat} {xs'' : Xs} {vs'' : List Value} {b : List (Str × Value)} {s13 : Shared} {l7 : List Ent}, St C.X g2 s13 ((C.L, NsHas b) :: (C.d, DictIs C.X xs'') :: (C.Dl, ListIs vs'') :: (C.Cd, ListIs cvs') :: (p, ListIs pvs) :: l7) →
          (∀ p ∈ C.b, b.lookup p.1 = some p.2) → (C.P.par k).foldl (lAdd C.P cf) (F', hs4) = (F'', hs'') → C.l <:+ l7 → DFl C.D l7 xs'' (valOf (flAt F'')) → All2 (PairV C.D (-·) l7) vs'' hs'' → All2 (PairV C.D id l7) cvs' cs' →
          (∀ j ∈ hs'', flAt F'' j ≠ 0) → (∀ j ∈ cs', flAt F'' j ≠ 0) → ∃ m, m < n + 1 ∧ ∃ st g, lRun C.P m st = some stF ∧ C.At C.b st g s13 := by
        intro F'' hs'' xs'' vs'' b s13 l7 S hb hf hCl hF hv hc h1 h2
        rw [hf] at hr'
        exact ⟨n, by omega, _, g2, hr', xs'', vs'', cvs', (p, ListIs pvs) :: l7, S.wk .here (NsHas.wk hb), hCl.trans (List.suffix_cons _ _), hF.sees ((Sees.refl _).cons _), hv.mono fun _ _ hx => hx.mono (List.subset_cons_self _ _), hc.mono fun _ _ hx => hx.mono (List.subset_cons_self _ _), hb2, h1, h2⟩
      have hnz4 : ∀ j ∈ hs4, flAt F' j ≠ 0 := fun j hj => hmono j (hnz j (hkm j hj))
      by_cases hem : pvs.isEmpty = true
      · rw [hem, if_neg (by decide)]
        repeat' walk_at "m:step"
        have hpe : C.P.par k = [] := by
          have h1 : pvs = [] := by simpa using hem
          have h2 := hpv'.length
          rw [h1] at h2
          exact List.length_eq_zero_iff.mp h2.symm
        refine fin S12 ?_ (by rw [hpe]; rfl) hC6 F10 hvs10 hcs10 hnz4 hcz'
        intro p hp
        simp only [LcCx.b, List.mem_cons, List.not_mem_nil, or_false] at hp
        rcases hp with rfl | rfl | rfl | rfl | rfl | rfl | rfl | rfl | rfl | rfl | rfl <;> rfl
      · rw [show pvs.isEmpty = false by simpa using hem, if_pos (by rfl)]
        repeat' walk_at "m:step"
        refine w_For ?_
        repeat' walk_at "m:step"
        refine w_iterList (f := (C.L, NsHas [])) S12 (.tail _ (.tail _ (.tail _ (.tail _ (.head _))))) fun I s13 S13 => ?_
        have S14 := S13.wk (P' := NsHas ((Str.ofString "cflags", .int (cf : Nat) tc) :: C.b)) (.there .here) (NsHas.wk (by
          intro p hp
          simp only [LcCx.b, List.mem_cons, List.not_mem_nil, or_false] at hp
          rcases hp with rfl | rfl | rfl | rfl | rfl | rfl | rfl | rfl | rfl | rfl | rfl | rfl <;> rfl))
        clear S13 S12
        refine w_forLoop (It.list (A := A) R.hh I p pvs) (fun i b l => b = (Str.ofString "cflags", .int (cf : Nat) tc) :: C.b ∧ ∃ F'' hs'' xs'' vs'' l7, ((C.P.par k).take i).foldl (lAdd C.P cf) (F', hs4) = (F'', hs'') ∧ l = (C.d, DictIs C.X xs'') :: (C.Dl, ListIs vs'') :: (C.Cd, ListIs cvs') :: (p, ListIs pvs) :: l7 ∧
            C.l <:+ l7 ∧ DFl C.D l7 xs'' (valOf (flAt F'')) ∧ All2 (PairV C.D (-·) l7) vs'' hs'' ∧ All2 (PairV C.D id l7) cvs' cs' ∧ All2 (RowV C.D l7) pvs (C.P.par k) ∧ (∀ j ∈ hs'', flAt F'' j ≠ 0) ∧ (∀ j ∈ cs', flAt F'' j ≠ 0) ∧ hs''.length ≤ hs4.length + i) ?_ S14 ⟨rfl, F', hs4, xs', vs4, l6, rfl, rfl, hC6, F10, hvs10, hcs10, hpv', hnz4, hcz', by omega⟩ ?_ ?_
        · rintro i b l ⟨rfl, F'', hs'', xs'', vs'', l7, _, rfl, _⟩ q hq
          rcases List.mem_singleton.mp hq with rfl
          exact .tail _ (.tail _ (.tail _ (.head _)))
        · rintro i v b l s15 hi hv ⟨rfl, F'', hs'', xs'', vs'', l7, hfold, rfl, hCs7, F7, hvs7, hcs7, hpv7, hnz7, hcz7, hlen7⟩ S15
          have hC7 := hCs7.subset
          obtain ⟨pk, hpk, pa, rfl, hpN, hpa⟩ := hpv7.get hv
          have up6 : ∀ {a b c d e f : Ent}, l7 ⊆ a :: b :: c :: d :: e :: f :: l7 := fun {a b c d e f} x hx => .tail _ (.tail _ (.tail _ (.tail _ (.tail _ (.tail _ hx)))))
          have up5 : ∀ {b c d e f : Ent}, l7 ⊆ b :: c :: d :: e :: f :: l7 := fun {b c d e f} x hx => .tail _ (.tail _ (.tail _ (.tail _ (.tail _ hx))))
          have hW7 := hC7 O.hW
          have hdx7 := hC7 O.hdx
          have hJb : ∀ {b : List (Str × Value)}, (∀ q ∈ (Str.ofString "cflags", Value.int (cf : Nat) tc) :: C.b, b.lookup q.1 = some q.2) → ∀ {F3 : Nat} {hs3 : List Nat} {xs3 : Xs} {vs3 : List Value} {l3 : List Ent} {s16 : Shared}, lAdd C.P cf (F'', hs'') pk = (F3, hs3) →
              St C.X g2 s16 ((C.L, NsHas b) :: (I, LIterIs p (i + 1)) :: (C.d, DictIs C.X xs3) :: (C.Dl, ListIs vs3) :: (C.Cd, ListIs cvs') :: (p, ListIs pvs) :: l3) → l7 <:+ l3 → DFl C.D l3 xs3 (valOf (flAt F3)) → All2 (PairV C.D (-·) l3) vs3 hs3 → (∀ j ∈ hs3, flAt F3 j ≠ 0) → (∀ j ∈ cs', flAt F3 j ≠ 0) → hs3.length ≤ hs4.length + (i + 1) →
              ∃ b' l', (b' = (Str.ofString "cflags", .int (cf : Nat) tc) :: C.b ∧ ∃ F'' hs'' xs'' vs'' l7, ((C.P.par k).take (i + 1)).foldl (lAdd C.P cf) (F', hs4) = (F'', hs'') ∧ l' = (C.d, DictIs C.X xs'') :: (C.Dl, ListIs vs'') :: (C.Cd, ListIs cvs') :: (p, ListIs pvs) :: l7 ∧
            C.l <:+ l7 ∧ DFl C.D l7 xs'' (valOf (flAt F'')) ∧ All2 (PairV C.D (-·) l7) vs'' hs'' ∧ All2 (PairV C.D id l7) cvs' cs' ∧ All2 (RowV C.D l7) pvs (C.P.par k) ∧ (∀ j ∈ hs'', flAt F'' j ≠ 0) ∧ (∀ j ∈ cs', flAt F'' j ≠ 0) ∧ hs''.length ≤ hs4.length + (i + 1)) ∧ St C.X g2 s16 ((C.L, NsHas b') :: (I, LIterIs p (i + 1)) :: l') := by
            intro b hb F3 hs3 xs3 vs3 l3 s16 hadd S16 h73 hF3 hv3 hz3 hc3 hl3
            exact ⟨_, _, ⟨rfl, F3, hs3, xs3, vs3, l3, by rw [fold_take hpk, hfold]; exact hadd, rfl, hCs7.trans h73, hF3, hv3, hcs7.mono fun _ _ hx => hx.mono h73.subset, hpv7.mono fun _ _ hx => hx.mono h73.subset, hz3, hc3, hl3⟩, S16.wk .here (NsHas.wk hb)⟩
          repeat' walk_at "m:step"
          rename St _ _ _ _ => S15b
          refine w_dictGet2 S15b (.tail _ (.tail _ (.head _))) O.hd1 (F7.sees (.of_sub up6)) (up6 hpa) hpN R.u1 fun s16 t16 S16 => ?_
          rw [valOf_getD]
          clear S15b S15
          repeat' walk_at "m:step"
          have ec : (Builtin.bitAnd (flAt F'' pk : Int) (cf : Int) == (cf : Int)) = decide (flAt F'' pk &&& cf = cf) := by
            rw [and_nat]
            by_cases e : flAt F'' pk &&& cf = cf
            · rw [e]; simp
            · rw [decide_eq_false e, beq_eq_false_iff_ne]
              exact fun q => e (by exact_mod_cast q)
          rw [ec]
          by_cases h1 : flAt F'' pk &&& cf = cf
          · rw [decide_eq_true h1, if_pos rfl]
            repeat' walk_at "m:step"
            rename St _ _ _ _ => S17
            refine hJb ?_ (F3 := F'') (hs3 := hs'') (by unfold lAdd; rw [if_pos h1]) S17 (List.suffix_refl _) F7 hvs7 hnz7 hcz7 (by omega)
            intro q hq
            simp only [LcCx.b, List.mem_cons, List.not_mem_nil, or_false] at hq
            rcases hq with rfl | rfl | rfl | rfl | rfl | rfl | rfl | rfl | rfl | rfl | rfl | rfl <;> rfl
          · rw [decide_eq_false h1, if_neg (by decide)]
            repeat' walk_at "m:step"
            rename St _ _ _ _ => S17
            refine ⟨O.kpC (fun e he => up6 (hC7 he)) S17, ?_⟩
            refine O.clock (fun e he => up5 (hC7 he)) S17 (R.le (by omega)) (up5 hpa) hpN fun s18 t18 S18 => ?_
            clear S17 S16
            repeat' walk_at "m:step"
            have hsk := O.skip pk hpN
            by_cases h2 : C.D.st pk < C.m
            · rw [decide_eq_true h2, if_pos rfl]
              repeat' walk_at "m:step"
              rename St _ _ _ _ => S19
              refine hJb ?_ (F3 := F'') (hs3 := hs'') (by unfold lAdd; rw [if_neg h1, hsk, decide_eq_true h2, if_pos rfl]) S19 (List.suffix_refl _) F7 hvs7 hnz7 hcz7 (by omega)
              intro q hq
              simp only [LcCx.b, List.mem_cons, List.not_mem_nil, or_false] at hq
              rcases hq with rfl | rfl | rfl | rfl | rfl | rfl | rfl | rfl | rfl | rfl | rfl | rfl <;> rfl
            · rw [decide_eq_false h2, if_neg (by decide)]
              repeat' walk_at "m:step"
              rw [or_nat]
              rename St _ _ _ _ => S19
              have hcf0 : cf ≠ 0 := fun e => h1 (by rw [e]; exact Nat.and_zero _)
              refine w_dictSetU O.dOk S19 (F7.sees (.of_sub up6)) (up6 hpa) hpN R.u1 (.there (.there .here)) fun s20 S20 _ => ?_
              clear S19 S18
              repeat' walk_at "m:step"
              refine w_newTuple S20 (by rw [sizeLine_eq]; simp) fun q2 s21 S21 => ?_
              replace S21 := S21.wk (P' := PairIs (C.D.st pk) pa) (.there .here) (fun o h => ⟨_, h⟩)
              clear S20
              repeat' walk_at "m:step"
              have S22 := S21.perm (permIdx (es := [_, _, _, _, _, _, _]) [4, 0, 1, 2, 3, 5, 6] (by kernel_rfl))
              refine c_add O.ltOk (l₀ := l7) up6 S22 (R.le (by omega)) (up6 hW7) (up6 hdx7) (.tail _ (.head _)) hpa hpN hvs7 (by have := hpv7.length; omega) fun vs23 s23 q3 S23 hv23 => ?_
              dsimp only
              repeat' walk_at "m:step"
              have S24 := S23.perm (permIdx (es := [_, _, _, _, _, _, _, _]) [2, 4, 5, 0, 6, 7, 1, 3] (by kernel_rfl))
              refine hJb ?_ (F3 := flOr F'' pk cf) (hs3 := hPush C.D.lt hs'' pk) (by unfold lAdd; rw [if_neg h1, hsk, decide_eq_false h2, if_neg (by decide), O.ltEq]) S24 ((List.suffix_cons _ _).trans (List.suffix_cons _ _)) ?_ ?_ ?_ ?_ ?_
              · intro q hq
                simp only [LcCx.b, List.mem_cons, List.not_mem_nil, or_false] at hq
                rcases hq with rfl | rfl | rfl | rfl | rfl | rfl | rfl | rfl | rfl | rfl | rfl | rfl <;> rfl
              · rw [← valOf_or hcf (or_nz' hcf0)]
                exact (F7.stored O.dOk hpN hpa).sees (.of_sub fun _ hx => .tail _ (.tail _ hx))
              · exact hv23.mono fun _ _ hx => hx.mono fun e he => by
                  rcases List.mem_cons.mp he with rfl | he
                  · exact .head _
                  · exact .tail _ (.tail _ he)
              · intro j hj
                rcases hPush_mem hj with hj | rfl
                · exact flAt_or_nz hcf (hnz7 j hj)
                · exact flAt_or_self hcf hcf0
              · exact fun j hj => flAt_or_nz hcf (hcz7 j hj)
              · rw [hPush_length]; omega
        · rintro b l s15 ⟨rfl, F'', hs'', xs'', vs'', l7, hfold, rfl, hC7, F7, hvs7, hcs7, hpv7, hnz7, hcz7, hlen7⟩ S15
          dsimp only
          repeat' walk_at "m:step"
          rw [hpv'.length, List.take_length] at hfold
          refine fin S15 ?_ hfold hC7 F7 hvs7 hcs7 hnz7 hcz7
          intro p hp
          simp only [LcCx.b, List.mem_cons, List.not_mem_nil, or_false] at hp
          rcases hp with rfl | rfl | rfl | rfl | rfl | rfl | rfl | rfl | rfl | rfl | rfl <;> rfl
end
end

section
theorem primePairs : (fun (_ : OpenLaw) (_ : Params → Frag) => True) PySem.Challenge.rw_ft5005_01 hd.heap_39 := by k_fill; trivial
section
variable {X : Cx} {g : Array GenState} {s : Shared} {l l' : List Ent} {A : Around} {E : Value → Shared → Prop} {env : Env}
/-- a for over a list of pairs, its target two names -/
theorem w_forPairs {D : Dag} {f : Int → Int} {I ax : Addr} {l₀ : List Ent} {items : List Value} {ks : List Nat} {x y : Str} {px py pp : Pos} {kk : Nat} {body : List Stmt} {R : Result → Shared → Prop} {b₀ : List (Str × Value)} (hh : A.handled = none) (hk : All2 (PairV D f l₀) items ks)
    (J : Nat → List (Str × Value) → List Ent → Prop) (hJ : ∀ i b l, J i b l → l₀ ⊆ l ∧ (ax, ListIs items) ∈ l) (S : St X g s ((I, LIterIs ax 0) :: (env.locals, NsHas b₀) :: l)) (h0 : J 0 b₀ l)
    (turn : ∀ i k p a t b l s, i < items.length → items[i]? = some (.ref p) → ks[i]? = some k → k < D.N → (p, PairIs (f (D.st k)) a) ∈ l₀ → (a, RowIs (D.row k)) ∈ l₀ → J i b l → St X g s ((env.locals, NsHas ((y, .ref a) :: (x, .int (f (D.st k)) t) :: b)) :: (I, LIterIs ax (i + 1)) :: l) →
      wpAny X.M A (execs body env) (fun fl s' => match fl with
        | .next | .cont => ∃ b' l', J (i + 1) b' l' ∧ St X g s' ((env.locals, NsHas b') :: (I, LIterIs ax (i + 1)) :: l')
        | .brk => R (.ok .next) s'
        | .ret v => R (.ok (.ret v)) s') NoE s)
    (done : ∀ b l s, J items.length b l → St X g s ((env.locals, NsHas b) :: l) → R (.ok .next) s)
    (hx : env.kindOf x = some .local := by rfl) (hy : env.kindOf y = some .local := by rfl) (hp : (env.scope.kind == .class || (env.scope.kind == .module && env.locals != env.globals)) = false := by rfl) :
    codeAny X.M A (.forLoop (.Tuple [.Name x px, .Name y py] kk pp) (.ref I) body [] env) R s := by
  refine codeAny_forLoop2 (fun n s' => ∃ i b l, i ≤ items.length ∧ n = items.length + 1 - i ∧ J i b l ∧ St X g s' ((I, LIterIs ax i) :: (env.locals, NsHas b) :: l)) ?_ (items.length + 1) ⟨0, b₀, l, Nat.zero_le _, rfl, h0, S⟩
  rintro n s' ⟨i, b, l₁, hi, rfl, hj, S'⟩
  obtain ⟨hl0, hax⟩ := hJ _ _ _ hj
  have hneed : ∀ p ∈ [(ax, ListIs items)], p ∈ (env.locals, NsHas b) :: l₁ := fun p hp => by rcases List.mem_singleton.mp hp with rfl; exact .tail _ hax
  by_cases hlt : i < items.length
  · refine (It.list (A := A) hh I ax items).item hlt S' hneed fun v s₂ hv S₂ => ?_
    obtain ⟨k, hk0, p, a, rfl, hkN, hpm, ham⟩ := hk.get hv
    dsimp only
    refine letOwned_list (i := i + 1) (ax := ax) (by obtain ⟨o, h1, h2⟩ := S₂.mem (.head _); exact ⟨o, h1, h2⟩) ?_
    obtain ⟨t, ht⟩ := S₂.isPair (.tail _ (.tail _ (hl0 hpm)))
    refine w_unpack2 S₂.swap hh ht (fun s₃ S₃ => ?_) hx hy hp
    refine wpAny_mono (turn i k p a t b l₁ s₃ hlt hv hk0 hkN hpm ham hj S₃) (fun fl s₄ h₄ => ?_) fun _ _ e => e.elim
    have fin : (∃ b' l', J (i + 1) b' l' ∧ St X g s₄ ((env.locals, NsHas b') :: (I, LIterIs ax (i + 1)) :: l')) → ∃ m, m < items.length + 1 - i ∧ ∃ i b l, i ≤ items.length ∧ m = items.length + 1 - i ∧ J i b l ∧ St X g s₄ ((I, LIterIs ax i) :: (env.locals, NsHas b) :: l) := by
      rintro ⟨b', l', hj', S₄⟩
      exact ⟨items.length + 1 - (i + 1), by omega, i + 1, b', l', hlt, rfl, hj', S₄.swap⟩
    cases fl with
    | next => exact fin h₄
    | cont => exact fin h₄
    | brk => exact h₄
    | ret v => exact h₄
  · have hin : i = items.length := by omega
    subst hin
    exact (It.list (A := A) hh I ax items).done S' hneed fun s₂ S₂ => done b l₁ s₂ hj S₂
/-- no pair of a list is this one -/
theorem w_notInPairs {D : Dag} (O : D.Ok) {f : Int → Int} {q a Rd : Addr} {items : List Value} {ks : List Nat} {k : Nat} {Q : Value → Shared → Prop} (S : St X g s l) (hu : A.units + 3 < cLine) (hR : (Rd, ListIs items) ∈ l) (hk : All2 (PairV D f l) items ks) (hkN : k < D.N) (hq : (q, PairIs (f (D.st k)) a) ∈ l) (ha : (a, RowIs (D.row k)) ∈ l)
    (h : Q (.bool (decide (k ∉ ks))) s) : wpAny X.M A (compareOp .NotIn (.ref q) (.ref Rd)) Q E s := by
  have key : ∀ {items : List Value} {ks : List Nat}, All2 (PairV D f l) items ks → ∃ e : Value → Bool, (∀ y ∈ items, PySem.SeqAt.EqAt A.in1 s y (.ref q) (e y)) ∧ items.any e = decide (k ∈ ks) := by
    intro items ks hk
    have h2 : ∀ y, ∃ b : Bool, (∀ k', PairV D f l y k' → b = decide (k' = k)) := by
      intro y
      by_cases hy : ∃ k', PairV D f l y k'
      · obtain ⟨k', hy⟩ := hy
        refine ⟨decide (k' = k), fun k2 h2 => ?_⟩
        obtain ⟨p, b, rfl, hN, hp, hb⟩ := hy
        obtain ⟨p2, b2, e, hN2, hp2, hb2⟩ := h2
        cases e
        obtain ⟨t1, ht1⟩ := S.isPair hp
        obtain ⟨t2, ht2⟩ := S.isPair hp2
        have ea := isTuple_inj ht1 ht2
        simp only [Array.mk.injEq, List.cons.injEq, Value.int.injEq, Value.ref.injEq, and_true] at ea
        obtain ⟨_, rfl⟩ := ea
        have := O.inj _ _ hN hN2 (S.row_inj hb hb2)
        rw [this]
      · exact ⟨true, fun k2 h2 => absurd ⟨k2, h2⟩ hy⟩
    refine ⟨fun y => Classical.choose (h2 y), fun y hy => ?_, ?_⟩
    · obtain ⟨k', _, hv⟩ := hk.mem y hy
      have e := Classical.choose_spec (h2 y) k' hv
      obtain ⟨p, b, rfl, hN, hp, hb⟩ := hv
      have := S.eqPair (A := A.in1) (show A.units + 1 + 1 < cLine by omega) hp hq hb ha
      show PySem.SeqAt.EqAt A.in1 s (.ref p) (.ref q) (Classical.choose (h2 (.ref p)))
      rw [e]
      have e2 : decide (f (D.st k') = f (D.st k) ∧ D.row k' = D.row k) = decide (k' = k) := by
        by_cases hkk : k' = k
        · subst hkk; simp
        · have : ¬ D.row k' = D.row k := fun q => hkk (O.inj _ _ hN hkN q)
          simp [hkk, this]
      rw [← e2]; exact this
    · clear h
      induction hk with
      | nil => simp
      | @cons v k' vs ks hv _ ih =>
        rw [List.any_cons, ih, Classical.choose_spec (h2 v) k' hv]
        by_cases e : k' = k
        · simp [e]
        · have : ¬ k = k' := fun q => e q.symm
          simp [e, this]
  obtain ⟨e, he, hany⟩ := key hk
  refine PySem.SeqAt.notIn_listAt e (S.isList hR) (fun y hy => he y (by simpa using hy)) ?_
  rw [show items.toArray.any e = items.any e by simp, hany]
  have : (!decide (k ∈ ks)) = decide (k ∉ ks) := by by_cases h : k ∈ ks <;> simp [h]
  rw [this]; exact h
end
end

section
theorem primeSortKey : (fun (_ : OpenLaw) (_ : Params → Frag) => True) PySem.Challenge.rw_ft5005_01 hd.heap_39 := by k_fill; trivial
section
variable {X : Cx} {g : Array GenState} {s : Shared} {l l' : List Ent} {A : Around} {E : Value → Shared → Prop} {env : Env}
/-- the whole present heap is to be kept -/
def Cx.up (X : Cx) {g : Array GenState} {s : Shared} {l : List Ent} (S : St X g s l) : Cx where
  w := X.w
  hT := s.heap
  os := X.os
  dr := X.dr
  loose := X.loose
  mg := X.mg
  mb := X.mb
  inK := S.K
  top := X.top.keeps S.keep
  bmain := let ⟨bm, ob, b1, b2, b3, r⟩ := X.bmain; ⟨bm, ob, b1, b2, S.keep _ _ b3, r⟩
  c87 := X.c87.keeps S.keep
  c138 := X.c138.keeps S.keep
theorem St.up (S : St X g s l) : St (X.up S) g s [] := ⟨fun _ _ e => e, (fun _ h => nomatch h), (fun _ h => nomatch h), List.nodup_nil, S.os, S.gens, S.dr⟩
theorem args_sortKey (x f : Addr) : argsOk "list.sort" ⟨[.ref x], [(Str.ofString "key", .ref f)]⟩ := by unfold argsOk; kernel_rfl
theorem w_lsortKey {L a f : Addr} {b : List (Str × Value)} {vs : List Value} {kz : List Int} {Q : Value → Shared → Prop} (S : St X g s ((L, NsHas b) :: (a, ListIs vs) :: l)) (hlen : kz.length = vs.length) (h64 : vs.length < 64)
    (turn : ∀ (i : Nat) (v : Value) (k : Int), vs[i]? = some v → kz[i]? = some k → ∀ (X' : Cx) (s' : Shared), X'.w = X.w → X'.hT = s'.heap → St X' g s' [] → St X g s' ((L, NsHas b) :: l) → ∀ {Q : Value → Shared → Prop}, (∀ s'' t, St X' g s'' [] → Q (.int k t) s'') → wpAny X.M A.in1 (call (.ref f) [v]) Q NoE s')
    (h : ∀ s' (ps : List (Int × Value)), ps.Perm (kz.zip vs) → ps.Pairwise (fun p q => p.1 ≤ q.1) → St X g s' ((L, NsHas b) :: (a, ListIs (ps.map Prod.snd)) :: l) → Q .none s') :
    wpAny X.M A (call (.builtin "list.sort") [.ref a] [(Str.ofString "key", .ref f)]) Q E s := by
  obtain ⟨n, ho⟩ := S.plainList (.tail _ (.head _))
  have S0 : St X g s ((L, NsHas b) :: l) := S.sub ((List.sublist_cons_self _ _).cons_cons _)
  obtain ⟨m, F, hm⟩ := S0.fr
  have N := S0.news
  have nd := S.nd
  simp only [List.map_cons, List.nodup_cons] at nd
  have haL : a ≠ L := fun e => nd.1 (by rw [e]; exact .head _)
  have hal : ∀ p ∈ l, p.1 ≠ a := fun p hp e => nd.2.1 (List.mem_map.mpr ⟨p, hp, e⟩)
  have haT := S.new (a, ListIs vs) (.tail _ (.head _))
  have hna : ∀ p ∈ newsL s.heap l ++ news0 X.hT, p.1 ≠ a := by
    rintro ⟨c, o⟩ hp e
    rcases List.mem_append.mp hp with hp | hp
    · obtain ⟨⟨p, hpm, rfl⟩, _⟩ := mem_newsL.mp hp
      exact hal p hpm e
    · have e2 := mem_news0.mp hp
      simp only at e
      rw [e, haT] at e2; cases e2
  refine wpAny_call_entry_kw slot_list_sort ⟨_, ho, rfl⟩ entry_list_sort ?_ (args_sortKey _ _)
  rw [ksk_t1]
  refine ksk_sort (kz := kz) F N ho haL (h0_none _) hna hlen h64 (fun i v k hv hk hp tk own F' N' => ?_) fun h' tk out c F' N' hout => ?_
  · have hl2 : ∀ p ∈ l, ∃ o, (p.1, o) ∈ (newsL s.heap l ++ news0 X.hT) ++ own ∧ p.2 o := fun p hpm => by
      obtain ⟨o, h1, h2⟩ := S0.get p (.tail _ hpm)
      exact ⟨o, List.mem_append_left _ (List.mem_append_left _ (mem_newsL.mpr ⟨⟨p, hpm, rfl⟩, h1⟩)), h2⟩
    have S1 := S0.back (l' := l) tk hm F' N' (fun p hp => List.mem_append_left _ (List.mem_append_right _ hp)) hl2 (fun p hp => S0.new p (.tail _ hp)) (by have := S0.nd; simp only [List.map_cons, List.nodup_cons] at this; exact this.2)
    refine turn i v k hv hk (X.up S1) _ rfl rfl S1.up S1 fun s'' t S2 => ?_
    refine ⟨s''.heap, s''.toks, t, ?_, rfl, ⟨F'.ns.keeps fun b o e => S2.keep b o e, fun b o e => (by rw [h0_none] at e; cases e), Nat.zero_le _⟩, fun p hp => ⟨S2.keep _ _ (N' p hp).1, (N' p hp).2⟩⟩
    have e1 := S2.os
    have e2 := S2.gens
    have e3 := S2.dr
    obtain ⟨hh, gg, dd, tt, oo⟩ := s''
    have f1 := S0.os
    have f2 := S0.gens
    have f3 := S0.dr
    simp only [Cx.up] at e1 e2 e3
    simp only [e1, e2, e3, f1, f2, f3]
  · obtain ⟨ps, hp1, hp2, hp3⟩ := hout
    refine ⟨_, rfl, h _ ps hp1 (by simpa using hp3) ?_⟩
    rw [← hp2]
    refine S0.back (l' := (a, ListIs out.toList) :: l) tk hm F' N' (fun p hp => .tail _ (List.mem_append_right _ hp)) (fun p hp => ?_) (fun p hp => ?_) ?_
    · rcases List.mem_cons.mp hp with rfl | hp
      · exact ⟨_, .head _, c, by simp⟩
      · obtain ⟨o, h1, h2⟩ := S0.get p (.tail _ hp)
        exact ⟨o, .tail _ (List.mem_append_left _ (mem_newsL.mpr ⟨⟨p, hp, rfl⟩, h1⟩)), h2⟩
    · rcases List.mem_cons.mp hp with rfl | hp
      · exact haT
      · exact S0.new p (.tail _ hp)
    · rw [List.map_cons, List.nodup_cons]; exact nd.2
end
end

end Mine

namespace Mine
local macro_rules | `(tactic| walk_at "m:mem") => `(tactic| first | exact List.Mem.head _ | assumption | (refine List.Mem.tail _ ?_; walk_at "m:mem") | (refine List.mem_append_right _ ?_; walk_at "m:mem"))
local macro_rules | `(tactic| walk_at "m:glob") => `(tactic| first | exact n_len _ | exact n_range _ | exact n_sorted _ | exact n_abs _ | exact n_list _ | exact n_enumerate _ | k_is)
local macro_rules | `(tactic| walk_at "m:boot") => `(tactic| first | exact PySem.boot_len | exact PyProof.Rows.boot_range | exact PyProof.Rows.boot_sorted | exact PyProof.Rows.boot_abs | exact PyProof.Rows.boot_list | exact PyProof.Rows.boot_enumerate)
local macro_rules | `(tactic| walk_at "m:name") => `(tactic| first
  | (refine' w_local (by assumption) ?mhb ?_; (case mhb => exact rfl))
  | (refine' w_cell (by assumption) ?mhc ?mhm ?_; (case mhc => exact rfl); (case mhm => walk_at "m:mem"))
  | (refine' w_builtin (by assumption) ?mhe ?mhv ?_; (case mhe => walk_at "m:glob"); (case mhv => walk_at "m:boot"))
  | (refine' w_global (by assumption) ?mhe ?_; (case mhe => walk_at "m:glob"))
  | (refine' w_free (by assumption) ?mhc ?mhm ?_; (case mhc => exact rfl); (case mhm => walk_at "m:mem")))
local macro_rules | `(tactic| walk_at "m:kp") => `(tactic| first | exact kp_builtin | exact kp_type | exact kp_K (by assumption) (by k_is))
local macro_rules | `(tactic| walk_at "m:step") => `(tactic| first
  | with_reducible refine wpAny_items_nil ?_
  | ((with_reducible refine gd0 ?_); refine wpAny_items_cons ?_)
  | with_reducible refine wpAny_execs_nil ?_
  | with_reducible refine wpAny_execs_cons ?_
  | ((with_reducible refine gd1 ?_); walk_at "m:name")
  | ((with_reducible refine w_int (by assumption) ?_); intro _ _ _)
  | with_reducible refine wpAny_BinOp ?_
  | with_reducible refine PyProof.Rows.Subscript_ ?_
  | ((with_reducible refine gd2 ?_); refine w_Call ?_)
  | ((with_reducible refine gd3 ?_); refine wpAny_Compare1 ?_)
  | ((with_reducible refine gd4 ?_); refine wpAny_isTrue_Compare1 ?_)
  | with_reducible refine wpAny_truthy_bool ?_
  | with_reducible refine PyProof.Rows.gt_int ?_
  | with_reducible refine PyProof.Rows.lt_int ?_
  | with_reducible refine PyProof.Rows.eq_int ?_
  | with_reducible refine PyProof.Rows.ne_int ?_
  | ((with_reducible refine w_add (by assumption) ?_); intro _ _ _)
  | ((with_reducible refine w_sub (by assumption) ?_); intro _ _ _)
  | ((with_reducible refine w_and (by assumption) ?_); intro _ _ _)
  | ((with_reducible refine w_or (by assumption) ?_); intro _ _ _)
  | ((with_reducible refine w_neg (by assumption) ?_); intro _ _ _)
  | with_reducible refine wpAny_If ?_
  | ((with_reducible refine gd5 ?_); refine wpAny_Assign_Name ?_)
  | with_reducible refine wpAny_Return_some ?_
  | with_reducible refine wpAny_IfExp ?_
  | with_reducible refine wpAny_UnaryOp ?_
  | with_reducible refine wpAny_isTrue_Not ?_
  | with_reducible refine wpAny_Constant_none ?_
  | with_reducible refine wpAny_Constant_bool ?_
  | with_reducible refine wpAny_Continue ?_
  | with_reducible refine wpAny_Break ?_
  | with_reducible refine wpAny_isTrue_BoolOp ?_
  | with_reducible refine wpAny_allTrue_And_cons ?_
  | with_reducible refine wpAny_allTrue_And_nil ?_
  | with_reducible refine wpAny_allTrue_Or_cons ?_
  | with_reducible refine wpAny_allTrue_Or_nil ?_
  | ((with_reducible refine gd6 ?_); (refine w_store (by assumption) ?_); intro _ _)
  | (with_reducible refine PyProof.Rows.Tuple_ ?_)
  | (with_reducible refine PyProof.Rows.List_ ?_)
  | (with_reducible refine' And.intro ?mkp ?_; (case mkp => walk_at "m:kp"))
  | (with_reducible refine w_range1 (by assumption) ?_; intro _ _ _)
  | (with_reducible refine w_range2 (by assumption) ?_; intro _ _ _)
  | dsimp only)

section
def askOk {α : Type} (dec : Nat → Nat → Bool) (n : Nat) : KasT α → Prop
  | .ret _ => True
  | .ask i j k => i < n ∧ j < n ∧ askOk dec n (k (dec i j))
theorem askOk_bind {α β : Type} {dec : Nat → Nat → Bool} {n : Nat} {f : α → KasT β} : ∀ {t : KasT α}, askOk dec n t → askOk dec n (f (kasRun dec t)) → askOk dec n (t.bind f)
  | .ret _, _, h => h
  | .ask _ _ k, ⟨h1, h2, h3⟩, h => ⟨h1, h2, askOk_bind (t := k _) h3 h⟩
theorem kasRun_wpB {α : Type} {dec : Nat → Nat → Bool} {n : Nat} {cmp : Nat → Nat → (Bool → Shared → Prop) → Shared → Prop} (I : Shared → Prop) (hc : ∀ i j, i < n → j < n → ∀ C s, I s → (∀ s', I s' → C (dec i j) s') → cmp i j C s) {Q : α → Shared → Prop} :
    ∀ (t : KasT α) (s : Shared), askOk dec n t → I s → (∀ s', I s' → Q (kasRun dec t) s') → t.kasWp cmp Q s
  | .ret a, s, _, hs, h => h s hs
  | .ask i j k, s, ⟨h1, h2, h3⟩, hs, h => hc i j h1 h2 _ s hs fun s' hs' => kasRun_wpB I hc (k (dec i j)) s' h3 hs' h
def PB (n : Nat) (p : Array Nat) : Prop := 0 < n ∧ ∀ x ∈ p.toList, x < n
theorem PB.get {n : Nat} {p : Array Nat} (h : PB n p) (i : Nat) : p.getD i 0 < n := by
  rw [Array.getD_eq_getD_getElem?]
  cases e : p[i]? with
  | none => exact h.1
  | some x => exact h.2 x (by rw [← Array.getElem?_toList] at e; exact List.mem_of_getElem? e)
theorem PB.perm {n : Nat} {p q : Array Nat} (h : PB n p) (hp : q.Perm p) : PB n q := ⟨h.1, fun x hx => h.2 x ((Array.perm_iff_toList_perm.mp hp).mem_iff.mp hx)⟩
section
variable {dec : Nat → Nat → Bool} {n : Nat}
theorem ask_asc {p : Array Nat} (hp : PB n p) : ∀ (f a : Nat), askOk dec n (kas_asc p f a)
  | 0, _ => trivial
  | f + 1, a => by
    rw [kas_asc]
    refine ⟨hp.get _, hp.get _, ?_⟩
    dsimp only
    split
    · trivial
    · exact ask_asc hp f (a + 1)
theorem ask_desc : ∀ (f : Nat) (p : Array Nat) (m q : Nat), PB n p → askOk dec n (kas_desc f p m q) ∧ PB n (kasRun dec (kas_desc f p m q)).1
  | 0, p, m, q, h => ⟨trivial, h⟩
  | f + 1, p, m, q, h => by
    have h' : PB n (kas_rev p (m - (q + 1)) m) := h.perm (mirror_perm _ _ _ _)
    rw [kas_desc, kasRun]
    cases e1 : dec (p.getD m 0) (p.getD (m - 1) 0) with
    | true =>
      simp only [askOk, e1, if_true]
      by_cases hq : q > 0
      · simp only [if_pos hq]
        exact ⟨⟨h.get _, h.get _, (ask_desc f _ _ _ h').1⟩, (ask_desc f _ _ _ h').2⟩
      · simp only [if_neg hq]
        exact ⟨⟨h.get _, h.get _, (ask_desc f _ _ _ h).1⟩, (ask_desc f _ _ _ h).2⟩
    | false =>
      simp only [askOk, e1, Bool.false_eq_true, if_false, kasRun]
      cases e2 : dec (p.getD (m - 1) 0) (p.getD m 0) with
      | true => simp only [if_true, askOk, kasRun]; exact ⟨⟨h.get _, h.get _, h.get _, h.get _, trivial⟩, h⟩
      | false =>
        simp only [Bool.false_eq_true, if_false]
        exact ⟨⟨h.get _, h.get _, h.get _, h.get _, (ask_desc f _ _ _ h).1⟩, (ask_desc f _ _ _ h).2⟩
theorem ask_tail3 {m k : Nat} {p : Array Nat} (h : PB n p) : askOk dec n (kas_tail3 m k p) ∧ PB n (kasRun dec (kas_tail3 m k p)).2 := by
  have h' : PB n (kas_rev p 0 m) := h.perm (mirror_perm _ _ _ _)
  unfold kas_tail3
  exact ⟨askOk_bind (ask_asc h' _ _) trivial, by rw [kasRun_bind]; exact h'⟩
theorem ask_descPart {m k : Nat} {p : Array Nat} (h : PB n p) : askOk dec n (kas_descPart m k p) ∧ PB n (kasRun dec (kas_descPart m k p)).2 := by
  have hd := ask_desc (dec := dec) (n := n) (k - (m + 1)) p (m + 1) 0 h
  unfold kas_descPart
  rw [kasRun_bind]
  constructor
  · refine askOk_bind hd.1 ?_
    split
    · exact (ask_tail3 (hd.2.perm (mirror_perm _ _ _ _))).1
    · exact (ask_tail3 hd.2).1
  · split
    · exact (ask_tail3 (hd.2.perm (mirror_perm _ _ _ _))).2
    · exact (ask_tail3 hd.2).2
theorem ask_count {k : Nat} {p : Array Nat} (h : PB n p) : askOk dec n (kas_count k p) ∧ PB n (kasRun dec (kas_count k p)).2 := by
  unfold kas_count
  rw [kasRun_bind]
  have hr : ∀ m, PB n (kas_rev p 0 m) := fun m => h.perm (mirror_perm _ _ _ _)
  constructor
  · refine askOk_bind (ask_asc h _ _) ?_
    split
    · trivial
    · split
      · refine ⟨h.get _, h.get _, ?_⟩
        dsimp only
        split
        · trivial
        · exact (ask_descPart (hr _)).1
      · exact (ask_descPart h).1
  · split
    · exact h
    · split
      · rw [kasRun]
        split
        · exact h
        · exact (ask_descPart (hr _)).2
      · exact (ask_descPart h).2
theorem ask_place {p : Array Nat} {k : Nat} (h : PB n p) : ∀ (f l r : Nat), askOk dec n (kas_place p k f l r)
  | 0, _, _ => trivial
  | f + 1, l, r => by
    rw [kas_place]
    split
    · trivial
    · refine ⟨h.get _, h.get _, ?_⟩
      dsimp only
      split
      · exact ask_place h f _ _
      · exact ask_place h f _ _
theorem ask_bin : ∀ (f : Nat) (p : Array Nat) (k : Nat), PB n p → askOk dec n (kas_bin f p k)
  | 0, _, _, _ => trivial
  | f + 1, p, k, h => by
    rw [kas_bin]
    exact askOk_bind (ask_place h _ _ _) (ask_bin f _ _ (h.perm (bubble_perm _ _ _)))
theorem ask_sort (hn : 0 < n) : askOk dec n (kas_sort n) := by
  have h : PB n (List.toArray (List.range n)) := ⟨hn, fun x hx => by simpa using hx⟩
  unfold kas_sort
  refine askOk_bind (ask_count h).1 ?_
  split
  · exact ask_bin _ _ _ (ask_count h).2
  · trivial
end
end

end Mine

namespace Mine
local macro_rules | `(tactic| walk_at "m:mem") => `(tactic| first | exact List.Mem.head _ | assumption | (refine List.Mem.tail _ ?_; walk_at "m:mem") | (refine List.mem_append_right _ ?_; walk_at "m:mem"))
local macro_rules | `(tactic| walk_at "m:glob") => `(tactic| first | exact n_len _ | exact n_range _ | exact n_sorted _ | exact n_abs _ | exact n_list _ | exact n_enumerate _ | k_is)
local macro_rules | `(tactic| walk_at "m:boot") => `(tactic| first | exact PySem.boot_len | exact PyProof.Rows.boot_range | exact PyProof.Rows.boot_sorted | exact PyProof.Rows.boot_abs | exact PyProof.Rows.boot_list | exact PyProof.Rows.boot_enumerate)
local macro_rules | `(tactic| walk_at "m:name") => `(tactic| first
  | (refine' w_local (by assumption) ?mhb ?_; (case mhb => exact rfl))
  | (refine' w_cell (by assumption) ?mhc ?mhm ?_; (case mhc => exact rfl); (case mhm => walk_at "m:mem"))
  | (refine' w_builtin (by assumption) ?mhe ?mhv ?_; (case mhe => walk_at "m:glob"); (case mhv => walk_at "m:boot"))
  | (refine' w_global (by assumption) ?mhe ?_; (case mhe => walk_at "m:glob"))
  | (refine' w_free (by assumption) ?mhc ?mhm ?_; (case mhc => exact rfl); (case mhm => walk_at "m:mem")))
local macro_rules | `(tactic| walk_at "m:kp") => `(tactic| first | exact kp_builtin | exact kp_type | exact kp_K (by assumption) (by k_is))
local macro_rules | `(tactic| walk_at "m:step") => `(tactic| first
  | with_reducible refine wpAny_items_nil ?_
  | ((with_reducible refine gd0 ?_); refine wpAny_items_cons ?_)
  | with_reducible refine wpAny_execs_nil ?_
  | with_reducible refine wpAny_execs_cons ?_
  | ((with_reducible refine gd1 ?_); walk_at "m:name")
  | ((with_reducible refine w_int (by assumption) ?_); intro _ _ _)
  | with_reducible refine wpAny_BinOp ?_
  | with_reducible refine PyProof.Rows.Subscript_ ?_
  | ((with_reducible refine gd2 ?_); refine w_Call ?_)
  | ((with_reducible refine gd3 ?_); refine wpAny_Compare1 ?_)
  | ((with_reducible refine gd4 ?_); refine wpAny_isTrue_Compare1 ?_)
  | with_reducible refine wpAny_truthy_bool ?_
  | with_reducible refine PyProof.Rows.gt_int ?_
  | with_reducible refine PyProof.Rows.lt_int ?_
  | with_reducible refine PyProof.Rows.eq_int ?_
  | with_reducible refine PyProof.Rows.ne_int ?_
  | ((with_reducible refine w_add (by assumption) ?_); intro _ _ _)
  | ((with_reducible refine w_sub (by assumption) ?_); intro _ _ _)
  | ((with_reducible refine w_and (by assumption) ?_); intro _ _ _)
  | ((with_reducible refine w_or (by assumption) ?_); intro _ _ _)
  | ((with_reducible refine w_neg (by assumption) ?_); intro _ _ _)
  | with_reducible refine wpAny_If ?_
  | ((with_reducible refine gd5 ?_); refine wpAny_Assign_Name ?_)
  | with_reducible refine wpAny_Return_some ?_
  | with_reducible refine wpAny_IfExp ?_
  | with_reducible refine wpAny_UnaryOp ?_
  | with_reducible refine wpAny_isTrue_Not ?_
  | with_reducible refine wpAny_Constant_none ?_
  | with_reducible refine wpAny_Constant_bool ?_
  | with_reducible refine wpAny_Continue ?_
  | with_reducible refine wpAny_Break ?_
  | with_reducible refine wpAny_isTrue_BoolOp ?_
  | with_reducible refine wpAny_allTrue_And_cons ?_
  | with_reducible refine wpAny_allTrue_And_nil ?_
  | with_reducible refine wpAny_allTrue_Or_cons ?_
  | with_reducible refine wpAny_allTrue_Or_nil ?_
  | ((with_reducible refine gd6 ?_); (refine w_store (by assumption) ?_); intro _ _)
  | (with_reducible refine PyProof.Rows.Tuple_ ?_)
  | (with_reducible refine PyProof.Rows.List_ ?_)
  | (with_reducible refine' And.intro ?mkp ?_; (case mkp => walk_at "m:kp"))
  | (with_reducible refine w_range1 (by assumption) ?_; intro _ _ _)
  | (with_reducible refine w_range2 (by assumption) ?_; intro _ _ _)
  | dsimp only)
local macro_rules | `(tactic| walk_at "m:glob") => `(tactic| first | exact n_heappush _ | exact n_heappop _)
local macro_rules | `(tactic| walk_at "m:step") => `(tactic| first
  | ((with_reducible refine gd7 ?_); refine wpAny_Expr ?_)
  | ((with_reducible refine gd8 ?_); refine Attribute_any_ ?_)
  | ((with_reducible refine gd9 ?_); (refine w_getPq (by assumption) (by walk_at "m:mem") (by walk_at "m:mem") ?_); intro _ _)
  | ((with_reducible refine gd10 ?_); refine Assign_Tuple ?_)
  | ((with_reducible refine gd11 ?_); refine plainObj_wpAny_Assign_Attribute ?_))
local macro_rules | `(tactic| walk_at "m:step") => `(tactic| first
  | ((with_reducible refine gd12 ?_); refine wpAny_isTrue_value ?_)
  | ((with_reducible refine gd13 ?_); refine wpAny_isTrue_value ?_))
local macro_rules | `(tactic| walk_at "m:kp") => `(tactic| first | exact kp_K (by assumption) (by k_is) | exact St.kpMade (by assumption) (by walk_at "m:mem") | exact St.kpLam (by assumption) (by walk_at "m:mem"))
local macro_rules | `(tactic| walk_at "m:wl") => `(tactic| first
  | refine w_methodWL (by assumption) (by walk_at "m:mem") (by walk_at "m:mem") (wl_find_iter _) (wl_fn_iter _) (wl_get_iter _) (by intro t; rfl) ?_
  | refine w_methodWL (by assumption) (by walk_at "m:mem") (by walk_at "m:mem") (wl_find_add _) (wl_fn_add _) (wl_get_add _) (by intro t; rfl) ?_
  | refine w_methodWL (by assumption) (by walk_at "m:mem") (by walk_at "m:mem") (wl_find_get _) (wl_fn_get _) (wl_get_get _) (by intro t; rfl) ?_)
local macro_rules | `(tactic| walk_at "m:step") => `(tactic| first
  | ((with_reducible refine gd14 ?_); refine MethodCall_ ?_)
  | ((with_reducible refine gd15 ?_); refine w_callW ?_)
  | ((with_reducible refine gd16 ?_); walk_at "m:wl"))
local macro_rules | `(tactic| walk_at "m:step") => `(tactic| first
  | ((with_reducible refine gd17 ?_); refine w_Try ?_)
  | ((with_reducible refine gd18 ?_); refine w_getMethodGet (by assumption) (by walk_at "m:mem") ?_)
  | ((with_reducible refine gd18 ?_); refine w_getMethodAppend (by assumption) (by walk_at "m:mem") ?_)
  | ((with_reducible refine gd19 ?_); refine w_isNone ?_)
  | ((with_reducible refine gd20 ?_); refine wpAny_Assign_Subscript ?_)
  | ((with_reducible refine gd21 ?_); simp only [List.cons_append, List.nil_append])
  | ((with_reducible refine gd22 ?_); simp only [List.cons_append, List.nil_append]))

section
theorem primeSorted : (fun (_ : OpenLaw) (_ : Params → Frag) => True) PySem.Challenge.rw_ft5005_01 hd.heap_39 := by k_fill; trivial
section
variable {X : Cx} {g : Array GenState} {s : Shared} {l l' : List Ent} {A : Around} {E : Value → Shared → Prop} {env : Env}
theorem w_sortedInts {L a : Addr} {b : List (Str × Value)} {vs : List Value} {ns : List Int} {Q : Value → Shared → Prop} (S : St X g s ((L, NsHas b) :: l)) (hm : (a, ListIs vs) ∈ l) (hi : IntsAre vs ns) (h64 : ns.length < 64)
    (h : ∀ D s' vs' ns', St X g s' ((L, NsHas b) :: (D, ListIs vs') :: l) → IntsAre vs' ns' → ns'.Perm ns → ns'.Pairwise (· ≤ ·) → Q (.ref D) s') : wpAny X.M A (call (.builtin "sorted") [.ref a]) Q E s := by
  obtain ⟨m, F, hmm⟩ := S.fr
  refine kso_sorted F S.news (S.isList (.tail _ hm)) hi h64 fun D vs' ns' c h' F' N' hD hi' _ hp ho _ => h D _ vs' ns' (S.back1 (oD := listOf vs'.toArray c) s.toks hmm F' N' hD ⟨c, by simp⟩) hi' hp ho
/-- a list of tuples put in order, its items told apart by a key that the compare agrees with -/
theorem w_sortedTups {L a : Addr} {b : List (Str × Value)} {vs : List Value} {T : Value} {key : Nat → Int} {Q : Value → Shared → Prop} (S : St X g s ((L, NsHas b) :: l)) (hm : (a, ListIs vs) ∈ l) (h2 : 2 ≤ vs.length) (h64 : vs.length < 64)
    (hf : ∀ s', St X g s' ((L, NsHas b) :: l) → ∃ fs, KatTups s'.heap vs fs ∧ 0 < fs.length ∧ ∀ v ∈ fs, Looks X.M s'.heap (typeOf v) T) (hT2 : (T == T) = true)
    (hcmp : ∀ s', St X g s' ((L, NsHas b) :: l) → ∀ i j, i < vs.length → j < vs.length → ∀ {Q : Bool → Shared → Prop}, Q (decide (key i < key j)) s' → wpAny X.M A.in1.in1 (keyLt' (tuples' (T != Value.type "tuple")) (vs.getD i Value.none) (vs.getD j Value.none)) Q NoE s')
    (h : ∀ D s' (p : List Nat), St X g s' ((L, NsHas b) :: (D, ListIs (p.map fun i => vs.getD i Value.none)) :: l) → p.Perm (List.range vs.length) → p.Pairwise (fun i j => key i ≤ key j) → Q (.ref D) s') : wpAny X.M A (call (.builtin "sorted") [.ref a]) Q E s := by
  obtain ⟨m, F, hmm⟩ := S.fr
  refine kat_sorted F S.news (S.isList (.tail _ hm)) h2 h64 fun D e1 h' F' N' hD => ?_
  have S1 := S.back1 (P := ListIs []) (oD := seqObj "list" #[] e1) s.toks hmm F' N' hD ⟨e1, by simp⟩
  have S2 : St X g { s with heap := h' } ((L, NsHas b) :: l) := S1.sub ((List.sublist_cons_self _ _).cons_cons _)
  obtain ⟨fs, f1, f2, f3⟩ := hf _ S2
  refine kat_kind f1 f2 f3 hT2 ?_
  obtain ⟨l2, e2, hp2, ho2⟩ : ∃ p, (kasRun (decK key) (kas_sort vs.length)).toList = p ∧ p.Perm (List.range vs.length) ∧ p.Pairwise fun i j => key i ≤ key j := by
    obtain ⟨p, e, hp, hs⟩ := run_sort (K := key) (n := vs.length) (by omega)
    refine ⟨p.toList, by rw [e], Array.perm_iff_toList_perm.mp hp, ?_⟩
    have hlen : p.size = vs.length := by have := hp.size_eq; simpa using this
    rw [List.pairwise_iff_getElem]
    intro i j hi hj hij
    have hi' : i < p.size := by simpa using hi
    have hj' : j < p.size := by simpa using hj
    have := hs i j (Nat.le_of_lt hij) (by omega)
    unfold KP at this
    simpa [hi', hj'] using this
  refine kasRun_wpB (dec := decK key) (fun s' => s' = { s with heap := h' }) ?_ _ _ (ask_sort (by omega)) rfl ?_
  · rintro i j hi hj C _ rfl hC
    exact hcmp _ S2 i j hi hj (hC _ rfl)
  · rintro _ rfl
    refine KasFin.intro (news := (D, seqObj "list" #[] e1) :: (newsL s.heap l ++ news0 X.hT)) (g := fun o => (D, o) :: (newsL s.heap l ++ news0 X.hT)) F' N' (.head fun q hq => Nat.ne_of_lt (hD q hq)) fun h2' c F2 N2 => ?_
    have S3 := S.back1 (P := ListIs (l2.map fun i => vs.getD i Value.none)) s.toks hmm F2 N2 hD ⟨c, by simp [← e2]⟩
    exact h D _ l2 S3 hp2 ho2
end
end

section
theorem primeComp2 : (fun (_ : OpenLaw) (_ : Params → Frag) => True) PySem.Challenge.rw_ft5005_01 hd.heap_39 := by k_fill; trivial
section
variable {X : Cx} {g : Array GenState} {s : Shared} {l l' : List Ent} {A : Around} {E : Value → Shared → Prop} {env : Env}
theorem codeAny_compLoop_two {elt target iter : Expr} {ifs : List Expr} {scope : Scope} {pos : Pos} {it acc : Value} {env : Env} {R : Result → Shared → Prop} (I : Nat → Shared → Prop)
    (turn : ∀ n s, I n s → wpAny X.M A (pyNext it) (fun r s₁ => match r with
      | none => R (.ok .next) s₁
      | some v => wpAny X.M A (letOwnedTupleGo target it v) (fun _ s₁ => wpAny X.M A (assign target env v) (fun _ s₂ =>
          wpAny X.M A (testsOf ifs env) (fun ok s₃ =>
            if ok = true then wpAny X.M A (eval elt env) (fun x s₄ =>
              wpAny X.M A (call (.builtin "list.append") [acc, x]) (fun _ s₅ => ∃ m, m < n ∧ I m s₅) NoE s₄) NoE s₃
            else ∃ m, m < n ∧ I m s₃) NoE s₂) NoE s₁) NoE s₁) NoE s)
    (n : Nat) (h : I n s) :
    codeAny X.M A (.compLoop (.ListComp elt [⟨target, iter, ifs, 0⟩] scope pos) 0 it acc env) R s := by
  refine codeAny_loop rfl I (fun n s hI => ?_) n h
  show wpAny _ A ((compTurn (.ListComp elt [⟨target, iter, ifs, 0⟩] scope pos) 0 it acc env).onRaise (fun x => do noteFrame x env; theTreesLotGoes x)) _ _ s
  refine wpAny_noted ?_
  rw [compTurn_list]
  refine wpAny_bind (wpAny_standAt (wpAny_bind (noted_of (wpAny_mono (turn n s hI) (fun r s₁ h₁ => ?_) fun _ _ h' => h'))))
  cases r with
  | none => exact wpAny_pure h₁
  | some v =>
    refine wpAny_bind (wpAny_mono h₁ (fun _ s₁ h₁ => ?_) fun _ _ h' => h'.elim)
    refine wpAny_bind (wpAny_mono h₁ (fun _ s₂ h₂ => wpAny_bind (wpAny_mono h₂ (fun ok s₃ h₃ => ?_) fun _ _ h' => h'.elim)) fun _ _ h' => h'.elim)
    cases ok with
    | false => exact wpAny_pure ⟨rfl, h₃⟩
    | true =>
      exact wpAny_bind (wpAny_bind (wpAny_mono h₃ (fun x s₄ h₄ => wpAny_bind (wpAny_mono h₄ (fun _ s₅ h₅ => wpAny_pure (wpAny_pure ⟨rfl, h₅⟩)) fun _ _ e => e.elim)) fun _ _ e => e.elim))
/-- a comprehension over a list of pairs, without tests; its element as the turn says -/
theorem w_compPairs {D : Dag} {f : Int → Int} {I ax Dr : Addr} {items : List Value} {ks : List Nat} {x y : Str} {px py pp : Pos} {kk : Nat} {elt iter : Expr} {scope : Scope} {pos : Pos} {R : Result → Shared → Prop} {cenv : Env}
    (hh : A.handled = none) (hk : All2 (PairV D f l) items ks) (hax : (ax, ListIs items) ∈ l) (hz : items.length ≤ 1000) (G : Nat → Nat → Value → Prop)
    (S : St X g s ((cenv.locals, NsHas []) :: (I, LIterIs ax 0) :: (Dr, ListIs []) :: l))
    (turn : ∀ i k p a t ys s, items[i]? = some (.ref p) → ks[i]? = some k → k < D.N → (p, PairIs (f (D.st k)) a) ∈ l → (a, RowIs (D.row k)) ∈ l → St X g s ((cenv.locals, NsHas [(y, .ref a), (x, .int (f (D.st k)) t)]) :: (I, LIterIs ax (i + 1)) :: (Dr, ListIs ys) :: l) →
      wpAny X.M A (eval elt cenv) (fun v s₃ => G i k v ∧ St X g s₃ ((cenv.locals, NsHas []) :: (I, LIterIs ax (i + 1)) :: (Dr, ListIs ys) :: l)) NoE s)
    (done : ∀ ys s, ys.length = items.length → (∀ i k v, ks[i]? = some k → ys[i]? = some v → G i k v) → St X g s ((cenv.locals, NsHas []) :: (Dr, ListIs ys) :: l) → R (.ok .next) s)
    (hx : cenv.kindOf x = some .local := by rfl) (hy : cenv.kindOf y = some .local := by rfl) (hp : (cenv.scope.kind == .class || (cenv.scope.kind == .module && cenv.locals != cenv.globals)) = false := by rfl) :
    codeAny X.M A (.compLoop (.ListComp elt [⟨.Tuple [.Name x px, .Name y py] kk pp, iter, [], 0⟩] scope pos) 0 (.ref I) (.ref Dr) cenv) R s := by
  refine codeAny_compLoop_two (fun n s' => ∃ i ys, i ≤ items.length ∧ n = items.length + 1 - i ∧ ys.length = i ∧ (∀ i k v, ks[i]? = some k → ys[i]? = some v → G i k v) ∧ St X g s' ((I, LIterIs ax i) :: (cenv.locals, NsHas []) :: (Dr, ListIs ys) :: l)) ?_ (items.length + 1)
    ⟨0, [], Nat.zero_le _, rfl, rfl, fun i k v _ e => by simp at e, S.swap⟩
  rintro n s' ⟨i, ys, hi, rfl, hlen, hG, S'⟩
  have hneed : ∀ p ∈ [(ax, ListIs items)], p ∈ (cenv.locals, NsHas []) :: (Dr, ListIs ys) :: l := fun p hp => by rcases List.mem_singleton.mp hp with rfl; exact .tail _ (.tail _ hax)
  by_cases hlt : i < items.length
  · refine (It.list (A := A) hh I ax items).item hlt S' hneed fun v s₂ hv S₂ => ?_
    obtain ⟨k, hk0, p, a, rfl, hkN, hpm, ham⟩ := hk.get hv
    dsimp only
    refine letOwned_list (i := i + 1) (ax := ax) (by obtain ⟨o, h1, h2⟩ := S₂.mem (.head _); exact ⟨o, h1, h2⟩) ?_
    obtain ⟨t, ht⟩ := S₂.isPair (.tail _ (.tail _ (.tail _ hpm)))
    refine w_unpack2 S₂.swap hh ht (fun s₃ S₃ => ?_) hx hy hp
    refine wpAny_tests_nil ?_
    rw [if_pos rfl]
    refine wpAny_mono (turn i k p a t ys s₃ hv hk0 hkN hpm ham S₃) (fun v s₄ h₄ => ?_) fun _ _ e => e
    obtain ⟨hg, S₄⟩ := h₄
    refine w_append S₄ (.there (.there .here)) (by rw [sizeLine_eq]; omega) fun s₅ S₅ => ⟨items.length + 1 - (i + 1), by omega, i + 1, ys ++ [v], hlt, rfl, by simp [hlen], ?_, S₅.swap⟩
    intro j k' v' hk' hv'
    by_cases hj : j < ys.length
    · rw [List.getElem?_append_left hj] at hv'
      exact hG _ _ _ hk' hv'
    · have hj2 : j < (ys ++ [v]).length := (List.getElem?_eq_some_iff.mp hv').1
      simp only [List.length_append, List.length_cons, List.length_nil] at hj2
      have : j = ys.length := by omega
      subst this
      rw [List.getElem?_append_right (Nat.le_refl _)] at hv'
      simp at hv'
      subst hv'
      rw [hlen] at hk' ⊢
      rw [hk0] at hk'; cases hk'
      exact hg
  · have hin : i = items.length := by omega
    subst hin
    exact (It.list (A := A) hh I ax items).done S' hneed fun s₂ S₂ => done ys s₂ hlen hG S₂
end
end

section
theorem primeLam : (fun (_ : OpenLaw) (_ : Params → Frag) => True) PySem.Challenge.rw_ft5005_01 hd.heap_39 := by k_fill; trivial
section
variable {X : Cx} {g : Array GenState} {s : Shared} {l l' : List Ent} {A : Around} {E : Value → Shared → Prop} {env : Env}
/-- a lambda that lies in the heap is called -/
theorem w_lamAt {k : Nat} {f c' : Addr} {name qual : Str} {params : Arguments} {body : Expr} {scope : Scope} {clos : List (Str × Addr)} {pm ctv : Value} {pos : List Value} {kw : List (Str × Value)} {binds : List (Str × Value)} {Q : Value → Shared → Prop} (S : St X g s l) (R : Rm A k)
    (ho : s.heap.get? f = some (kla_obj name qual params body scope clos pm c' ctv)) (hc : s.heap.CodeRec (.ref c') qual) (hbind : bindArgs (kla_fn name qual params body scope clos pm (.ref c') ctv) ⟨pos, kw⟩ = pure binds)
    (h : ∀ L s', St X g s' ((L, NsHas binds.reverse) :: l) → wpAny X.M (A.deeper (envX qual scope L f (.ref c') clos)) (eval body (envX qual scope L f (.ref c') clos)) Q NoE s')
    (hloc : ∀ y ∈ binds, scope.names.lookup y.1 = some .local) (hcell : ∀ x ∈ scope.names, x.2 ≠ .cell) (hco : scope.isCoroutine = false) (hgen : scope.isGenerator = false) (hk : scope.kind = .function) :
    wpAny X.M A (call (.ref f) pos kw) Q E s := by
  refine wpAny_call (kla_callFunE R.d ho rfl hco hgen rfl hc ?_)
  rw [hbind]
  refine wpAny_pure (wpAny_newFunctionEnv hcell hloc (fun h₁ hns hsb => ⟨(X.top.nolimit.keeps S.keep).fresh _ hsb, ?_⟩) hk)
  have hk₁ : ∀ b o, s.heap.get? b = some o → h₁.get? b = some o := fun b o e => hsb.extBut b o (Nat.ne_of_lt (Heap.lt_size e)) (Heap.get?_push_of_some _ e)
  obtain ⟨o, ho', hP⟩ := NsHas.of_ns (b := binds.reverse) hns (fun x v e => e)
  have S1 : St X g { s with heap := h₁, toks := s.toks + binds.length } ((s.heap.objs.size, NsHas binds.reverse) :: l) :=
    S.add (s' := { s with heap := h₁, toks := s.toks + binds.length }) hk₁ (none_size (Nat.le_refl _)) ho' hP S.ne_size
  show codeAny _ _ (.expr body (envX qual scope s.heap.objs.size f (.ref c') clos)) _ _
  exact kla_codeExpr (wpAny_mono (h _ _ S1) (fun v s' hl => hl) fun _ _ y => y.elim)
theorem St.codeRec (S : St X g s l) {c' : Addr} {q : Str} (hc : (c', CodeIs q) ∈ l) : s.heap.CodeRec (.ref c') q := by
  obtain ⟨oc, hoc, vs, t, hd, hv⟩ := S.mem hc
  exact ⟨c', oc, vs, t, rfl, hoc, hd, hv⟩
theorem NoTup.tab {ps : Array Value} : NoTup (Is (tabObj ps)) := by rintro vs n h; simp [Is, tabObj] at h
end
theorem perm_unmap {α β : Type} {f : α → β} : ∀ {ps : List β} {qs : List α}, ps.Perm (qs.map f) → ∃ qs' : List α, qs'.Perm qs ∧ ps = qs'.map f
  | [], qs, h => by
    have : qs = [] := by have := h.length_eq; simp at this; exact List.length_eq_zero_iff.mp this.symm
    subst this; exact ⟨[], .rfl, rfl⟩
  | p :: ps, qs, h => by
    obtain ⟨q, hq, rfl⟩ := List.mem_map.mp (h.mem_iff.mp (.head _))
    obtain ⟨x, y, rfl⟩ := List.append_of_mem hq
    have h2 : (f q :: ps).Perm (f q :: (x ++ y).map f) := h.trans (by simp only [List.map_append, List.map_cons]; exact List.perm_middle)
    obtain ⟨qs', hp, rfl⟩ := perm_unmap ((List.perm_cons _).mp h2)
    exact ⟨q :: qs', (hp.cons q).trans List.perm_middle.symm, rfl⟩
theorem All2.zip_mem {α β : Type} {R : α → β → Prop} {x : List α} {y : List β} (h : All2 R x y) : ∀ p : β × α, p ∈ y.zip x → R p.2 p.1 := by
  induction h with
  | nil => intro p hp; simp at hp
  | cons h _ ih =>
    intro p hp
    rw [List.zip_cons_cons] at hp
    rcases List.mem_cons.mp hp with rfl | hp
    · exact h
    · exact ih p hp
theorem All2.of_zip {α β : Type} {R : α → β → Prop} : ∀ {qs : List (β × α)}, (∀ p : β × α, p ∈ qs → R p.2 p.1) → All2 R (qs.map Prod.snd) (qs.map Prod.fst)
  | [], _ => .nil
  | q :: qs, h => .cons (h q (.head _)) (All2.of_zip fun p hp => h p (.tail _ hp))
theorem map_zip_l {α β γ : Type} (f : β → γ) : ∀ (y : List β) (x : List α), (y.map f).zip x = (y.zip x).map fun p => (f p.1, p.2)
  | [], x => by simp
  | _ :: _, [] => by simp
  | b :: y, a :: x => by simp [map_zip_l f y x]
theorem map_fst_zip' {α β : Type} : ∀ (y : List β) (x : List α), x.length = y.length → (y.zip x).map Prod.fst = y
  | [], _, _ => rfl
  | b :: y, [], h => by simp at h
  | b :: y, a :: x, h => by simp at h; simp [map_fst_zip' y x h]
/-- what a sort by a key gives -/
theorem sorted_back {R : Value → Nat → Prop} {key : Nat → Int} {vs : List Value} {rs : List Nat} (h : All2 R vs rs) {ps : List (Int × Value)} (hp : ps.Perm ((rs.map key).zip vs)) (ho : ps.Pairwise fun p q => p.1 ≤ q.1) :
    ∃ ks, ks.Perm rs ∧ All2 R (ps.map Prod.snd) ks ∧ ks.Pairwise fun i j => key i ≤ key j := by
  rw [map_zip_l] at hp
  obtain ⟨qs, hq, rfl⟩ := perm_unmap hp
  refine ⟨qs.map Prod.fst, ?_, ?_, ?_⟩
  · have := hq.map Prod.fst
    rwa [map_fst_zip' _ _ h.length] at this
  · rw [List.map_map]
    exact All2.of_zip fun p hp => h.zip_mem p (hq.mem_iff.mp hp)
  · rw [List.pairwise_map] at ho ⊢
    exact ho
theorem All2.of_get {α β : Type} {R : α → β → Prop} : ∀ {x : List α} {y : List β}, x.length = y.length → (∀ (i : Nat) a b, y[i]? = some b → x[i]? = some a → R a b) → All2 R x y
  | [], [], _, _ => .nil
  | [], _ :: _, h, _ => by simp at h
  | _ :: _, [], h, _ => by simp at h
  | a :: x, b :: y, h, hr => .cons (hr 0 a b rfl rfl) (All2.of_get (by simpa using h) fun i a b h1 h2 => hr (i + 1) a b (by simpa using h1) (by simpa using h2))
end

section
theorem primeTail : (fun (_ : OpenLaw) (_ : Params → Frag) => True) PySem.Challenge.rw_ft5005_01 hd.heap_39 := by k_fill; trivial
section
variable {X : Cx} {g : Array GenState} {s : Shared} {l l' : List Ent} {A : Around} {E : Value → Shared → Prop} {env : Env}
theorem w_callKw0 {pos : Pos} {fv : Value} {first : List Value} {kws : List Keyword} {Q : Value → Shared → Prop} (hall : (backToKw pos (keywordEach kws env)).all (·.1.isSome) = true)
    (h : wpAny X.M A (evalAll ((backToKw pos (keywordEach kws env)).map (·.2))) (fun ks s₂ => Kp X fv s₂.heap ∧ wpAny X.M A (call fv (first ++ []) (((backToKw pos (keywordEach kws env)).filterMap (·.1)).zip ks)) Q E s₂) E s)
    (hplain : ((backTo pos (starEach [] env)).any (·.1) || (backToKw pos (keywordEach kws env)).any (·.1.isNone)) = false := by rfl) :
    wpAny X.M A (callWith pos fv first (backTo pos (starEach [] env)) (backToKw pos (keywordEach kws env))) Q E s :=
  callWith_of (P := fun h => Kp X fv h) hplain (fun _ x => x) (evalArgs_kw2_nil hall h)
theorem w_getMethodSort {D : Addr} {vs : List Value} {pl : Sem Bool} {Q : Value × List Value → Shared → Prop} (S : St X g s l) (hm : (D, ListIs vs) ∈ l) (h : Q (.builtin "list.sort", [.ref D]) s) : wpAny X.M A (getMethod (.ref D) (Str.ofString "sort") pl) Q E s := by
  obtain ⟨o, ho, n, rfl⟩ := S.mem hm
  exact getMethod_builtin (T := "list") ⟨_, ho, rfl⟩ PySem.F.plainAttrs_list PySem.F.slot_list_sort PySem.F.type_list_sort (fun a e => by cases e; exact ⟨_, ho, rfl⟩) h
theorem res_take {fl : Nat → Nat} {cs : List Nat} {r : List Nat} {i k : Nat} (h : cs[i]? = some k) : (cs.take (i + 1)).foldl (fun rs k => if fl k &&& 4 ≠ 4 ∧ k ∉ rs then rs ++ [k] else rs) r =
   (fun rs k => if fl k &&& 4 ≠ 4 ∧ k ∉ rs then rs ++ [k] else rs) ((cs.take i).foldl (fun rs k => if fl k &&& 4 ≠ 4 ∧ k ∉ rs then rs ++ [k] else rs) r) k := by
  rw [List.take_add_one, h, List.foldl_append]; rfl
def LcCx.b1 (C : LcCx) (Rd : Addr) : List (Str × Value) := (Str.ofString "results", Value.ref Rd) :: C.b
theorem lc_res (C : LcCx) (O : C.Ok) {body : List Stmt} {qual : Str} {scope : Scope} {cdv : Value} (hb90 : FnAt90' C.X.w.params body qual scope cdv) {s0 s1 : Stmt} {rest : List Stmt} (h12 : body[12]? = some s0) (h13 : body[13]? = some s1)
    {stF : LSt} (R : Rm A 45)
    {Q : Flow → Shared → Prop} (hAt : C.At C.b stF g s) (hcl : stF.cs.length < 64)
    (h : ∀ s' Rd rvs l7, St C.X g s' ((C.L, NsHas (C.b1 Rd)) :: (Rd, ListIs rvs) :: l7) → C.l <:+ l7 → All2 (PairV C.D id l7) rvs (lRes stF) → (lRes stF).length < 64 → wpAny C.X.M A (execs rest (envX qual scope C.L 90 cdv [(Str.ofString "_DNC", C.cD)])) Q E s') : wpAny C.X.M A (execs (s0 :: s1 :: rest) (envX qual scope C.L 90 cdv [(Str.ofString "_DNC", C.cD)])) Q E s := by
  obtain ⟨oc, od, name, params, dV, kV, doc, pm, an, ct, osl, h90⟩ := hb90
  obtain ⟨rfl, rfl, rfl, rfl⟩ := fn90' _ h90 (by k_is)
  cases h12; cases h13
  clear h90
  obtain ⟨xs, vs, cvs, lq, S1, hls, F, hvs, hcs, hbare, hnz, hcz⟩ := hAt
  have hl := hls.subset
  repeat' walk_at "m:step"
  refine w_newList S1 (by rw [sizeLine_eq]; simp) fun Rd s2 S2 => ?_
  clear S1
  repeat' walk_at "m:step"
  rename St _ _ _ _ => S3
  refine w_For2 ?_
  repeat' walk_at "m:step"
  have hb1 : (Str.ofString "results", Value.ref Rd) :: C.b = C.b1 Rd := rfl
  rw [hb1] at S3
  refine w_iterList (f := (C.L, NsHas [])) S3 (.tail _ (.tail _ (.tail _ (.tail _ (.head _))))) fun I s4 S4 => ?_
  clear S3 S2
  have up5 : ∀ {a b c d e : Ent} {m : List Ent}, m ⊆ a :: b :: c :: d :: e :: m := fun {a b c d e m} x hx => .tail _ (.tail _ (.tail _ (.tail _ (.tail _ hx))))
  have up4 : ∀ {a b c d : Ent} {m : List Ent}, m ⊆ a :: b :: c :: d :: m := fun {a b c d m} x hx => .tail _ (.tail _ (.tail _ (.tail _ hx)))
  refine w_forPairs (l₀ := lq) R.hh hcs (fun i b l => b = C.b1 Rd ∧ ∃ rvs rs l7, rs = (stF.cs.take i).foldl (fun rs k => if flAt stF.F k &&& 4 ≠ 4 ∧ k ∉ rs then rs ++ [k] else rs) [] ∧ l = (Rd, ListIs rvs) :: (C.d, DictIs C.X xs) :: (C.Dl, ListIs vs) :: (C.Cd, ListIs cvs) :: l7 ∧ lq <:+ l7 ∧
      All2 (PairV C.D id l7) rvs rs ∧ rs.length ≤ i) ?_ S4 ⟨rfl, [], [], lq, rfl, rfl, List.suffix_refl _, .nil, Nat.le_refl _⟩ ?_ ?_
  · rintro i b l ⟨rfl, rvs, rs, l7, _, rfl, hs7, _⟩
    exact ⟨fun e he => up4 (hs7.subset he), .tail _ (.tail _ (.tail _ (.head _)))⟩
  · rintro i k p a t b l5 s5 hi hp hk hkN hpm ham ⟨rfl, rvs, rs, l7, hrs, rfl, hs7, hrv, hlen⟩ S5
    have h7 := hs7.subset
    have hk1 := hcz k (List.mem_of_getElem? hk)
    have hv0 : valOf (flAt stF.F) k = some (flAt stF.F k : Int) := if_neg hk1
    have hcD7 : (C.cD, CellHas (some (.int 4 C.t4))) ∈ l7 := h7 (hl O.hcD)
    have ha7 := h7 ham
    repeat' walk_at "m:step"
    refine w_dictTail S5 (.tail _ (.tail _ (.tail _ (.head _)))) (F.sees (.of_sub fun e he => .tail _ (.tail _ (up4 (h7 he))))) (.tail _ (.tail _ (up4 ha7))) hkN hv0 R.u1 fun s6 t6 S6 => ?_
    clear S5
    repeat' walk_at "m:step"
    rename St _ _ _ _ => S7
    have e4 : (Builtin.bitAnd (flAt stF.F k : Int) 4 == 4) = decide (flAt stF.F k &&& 4 = 4) := by
      rw [show (4 : Int) = ((4 : Nat) : Int) from rfl, and_nat]
      by_cases e : flAt stF.F k &&& 4 = 4
      · rw [e]; rfl
      · rw [decide_eq_false e, beq_eq_false_iff_ne]
        exact fun q => e (by exact_mod_cast q)
    rw [e4]
    have fin : ∀ {b : List (Str × Value)} {rvs' : List Value} {l8 : List Ent} {rs' : List Nat} {s10 : Shared}, St C.X g s10 ((C.L, NsHas b) :: (I, LIterIs C.Cd (i + 1)) :: (Rd, ListIs rvs') :: (C.d, DictIs C.X xs) :: (C.Dl, ListIs vs) :: (C.Cd, ListIs cvs) :: l8) → (∀ p ∈ C.b1 Rd, b.lookup p.1 = some p.2) →
        rs' = (if flAt stF.F k &&& 4 ≠ 4 ∧ k ∉ rs then rs ++ [k] else rs) → lq <:+ l8 → All2 (PairV C.D id l8) rvs' rs' → ∃ b' l', (b' = C.b1 Rd ∧ ∃ rvs rs l7, rs = (stF.cs.take (i + 1)).foldl (fun rs k => if flAt stF.F k &&& 4 ≠ 4 ∧ k ∉ rs then rs ++ [k] else rs) [] ∧ l' = (Rd, ListIs rvs) :: (C.d, DictIs C.X xs) :: (C.Dl, ListIs vs) :: (C.Cd, ListIs cvs) :: l7 ∧ lq <:+ l7 ∧
      All2 (PairV C.D id l7) rvs rs ∧ rs.length ≤ i + 1) ∧ St C.X g s10 ((C.L, NsHas b') :: (I, LIterIs C.Cd (i + 1)) :: l') := by
      intro b rvs' l8 rs' s10 S10 hb hrs' hs8 hv8
      refine ⟨C.b1 Rd, _, ⟨rfl, rvs', rs', l8, ?_, rfl, hs8, hv8, ?_⟩, S10.wk .here (NsHas.wk hb)⟩
      · rw [res_take (fl := flAt stF.F) hk, ← hrs]; exact hrs'
      · rw [hrs']; split
        · simp; omega
        · omega
    have hbb : ∀ {v1 v2 : Value}, ∀ p ∈ C.b1 Rd, ((Str.ofString "cmt", v1) :: (Str.ofString "dt", v2) :: C.b1 Rd).lookup p.1 = some p.2 := by
      intro v1 v2 p hp
      simp only [LcCx.b1, LcCx.b, List.mem_cons, List.not_mem_nil, or_false] at hp
      rcases hp with rfl | rfl | rfl | rfl | rfl | rfl | rfl | rfl | rfl | rfl | rfl | rfl <;> rfl
    by_cases e : flAt stF.F k &&& 4 = 4
    · simp only [e, decide_true, Bool.not_true, Bool.false_eq_true, if_false]
      repeat' walk_at "m:step"
      rename St _ _ _ _ => S8
      exact fin S8 hbb (by simp [e]) hs7 hrv
    · simp only [e, decide_false, Bool.not_false, if_true]
      repeat' walk_at "m:step"
      refine w_newTuple S7 (by rw [sizeLine_eq]; simp) fun q s8 S8 => ?_
      replace S8 := S8.wk (P' := PairIs (id (C.D.st k)) a) (.there .here) (fun o h => ⟨_, h⟩)
      clear S7 S6
      repeat' walk_at "m:step"
      refine w_notInPairs O.dOk S8 (by have := R.hu; omega) (.tail _ (.tail _ (.tail _ (.head _)))) (hrv.mono fun _ _ hx => hx.mono fun e he => .tail _ (.tail _ (.tail _ (up4 he)))) hkN (.tail _ (.head _)) (.tail _ (.tail _ (.tail _ (up4 ha7)))) ?_
      by_cases hin : k ∈ rs
      · rw [decide_eq_false (not_not_intro hin)]
        repeat' walk_at "m:step"
        rw [if_neg (by decide)]
        repeat' walk_at "m:step"
        rw [if_neg (by decide)]
        repeat' walk_at "m:step"
        exact fin (S8.sub ((List.sublist_cons_self _ _).cons_cons _)) hbb (by simp [hin]) hs7 hrv
      · rw [decide_eq_true hin]
        repeat' walk_at "m:step"
        repeat' walk_at "m:step"
        rw [if_pos rfl]
        repeat' walk_at "m:step"
        rw [if_pos rfl]
        repeat' walk_at "m:step"
        refine w_newTuple S8 (by rw [sizeLine_eq]; simp) fun q2 s9 S9 => ?_
        replace S9 := S9.wk (P' := PairIs (id (C.D.st k)) a) (.there .here) (fun o h => ⟨_, h⟩)
        repeat' walk_at "m:step"
        refine w_append S9 (.there (.there (.there (.there .here)))) (by have := hrv.length; have := (List.getElem?_eq_some_iff.mp hk).1; rw [sizeLine_eq]; omega) fun s10 S10 => ?_
        dsimp only
        repeat' walk_at "m:step"
        have S11 := S10.perm (permIdx (es := [_, _, _, _, _, _, _, _]) [0, 3, 4, 5, 6, 7, 1, 2] (by kernel_rfl))
        refine fin S11 hbb (by simp [hin, e]) (hs7.trans ((List.suffix_cons _ _).trans (List.suffix_cons _ _))) ((hrv.mono fun _ _ hx => hx.mono fun e he => .tail _ (.tail _ he)).append (.cons ⟨q2, a, rfl, hkN, .head _, .tail _ (.tail _ ha7)⟩ .nil))
  · rintro b l5 s5 ⟨rfl, rvs, rs, l7, hrs, rfl, hs7, hrv, hlen⟩ S5
    have hres : rs = lRes stF := by rw [hrs, hcs.length, List.take_length]; rfl
    dsimp only
    refine h _ Rd rvs _ S5 (hls.trans (hs7.trans ((List.suffix_cons _ _).trans ((List.suffix_cons _ _).trans (List.suffix_cons _ _))))) (hres ▸ hrv.mono fun _ _ hx => hx.mono fun e he => .tail _ (.tail _ (.tail _ he))) ?_
    rw [← hres]; have := hcs.length; omega
end
end

section
theorem primeTail2 : (fun (_ : OpenLaw) (_ : Params → Frag) => True) PySem.Challenge.rw_ft5005_01 hd.heap_39 := by k_fill; trivial
section
variable {X : Cx} {g : Array GenState} {s : Shared} {l l' : List Ent} {A : Around} {E : Value → Shared → Prop} {env : Env}
def lcPq : List (Pos × Str) := [(⟨30, 4, 35, 20⟩, Str.ofString "_find_lcas" ++ Str.ofString ".<locals>." ++ Str.ofString "_has_candidates"), (⟨89, 21, 89, 35⟩, Str.ofString "_find_lcas" ++ Str.ofString ".<locals>." ++ Str.ofString "<lambda>")]
theorem lc_end (C : LcCx) (O : C.Ok) {body : List Stmt} {qual : Str} {scope : Scope} {cdv : Value} (hb90 : FnAt90' C.X.w.params body qual scope cdv) {s2 s3 s4 : Stmt} (h14 : body[14]? = some s2) (h15 : body[15]? = some s3) (h16 : body[16]? = some s4)
    {rs : List Nat} (R : Rm A 45) {e1 e2 e3 e4 f0 : Ent} {lB l7 : List Ent} {ps : Array Value} (hC : C.l = e1 :: e2 :: e3 :: e4 :: f0 :: (87, Is (tabObj ps)) :: lB) (hf0 : NoTup f0.2) (T : TabOk lB ps lcPq) {Rd : Addr} {rvs : List Value}
    {Q : Flow → Shared → Prop} (S : St C.X g s ((C.L, NsHas (C.b1 Rd)) :: (Rd, ListIs rvs) :: l7)) (hs : C.l <:+ l7) (hrv : All2 (PairV C.D id l7) rvs rs) (h64 : rs.length < 64)
    (h : ∀ p lvs ks ps' new s', St C.X g s' (f0 :: (87, Is (tabObj ps')) :: (p, ListIs lvs) :: (new ++ lB)) → TabOk (new ++ lB) ps' lcPq → All2 (RowV C.D (new ++ lB)) lvs ks → ks.Perm rs → ks.Pairwise (fun i j => C.D.st i ≤ C.D.st j) → Q (.ret (.ref p)) s') :
    wpAny C.X.M A (execs [s2, s3, s4] (envX qual scope C.L 90 cdv [(Str.ofString "_DNC", C.cD)])) Q E s := by
  obtain ⟨oc, od, name, params, dV, kV, doc, pm, an, ct, osl, h90⟩ := hb90
  obtain ⟨rfl, rfl, rfl, rfl⟩ := fn90' _ h90 (by k_is)
  cases h14; cases h15; cases h16
  clear h90
  obtain ⟨x, rfl⟩ := hs
  rw [hC] at S hrv
  have S1 : St C.X g s ((C.L, NsHas (C.b1 Rd)) :: (87, Is (tabObj ps)) :: (Rd, ListIs rvs) :: (x ++ (e1 :: e2 :: e3 :: e4 :: f0 :: lB))) := by
    refine S.perm (List.Perm.cons _ ?_)
    have q : (e1 :: e2 :: e3 :: e4 :: f0 :: (87, Is (tabObj ps)) :: lB).Perm ((87, Is (tabObj ps)) :: e1 :: e2 :: e3 :: e4 :: f0 :: lB) := permIdx (es := [e1, e2, e3, e4, f0, (87, Is (tabObj ps))]) [5, 0, 1, 2, 3, 4] (by kernel_rfl)
    exact ((q.append_left x).trans List.perm_middle).cons _ |>.trans (List.Perm.swap _ _ _)
  have hsee : Sees (x ++ (e1 :: e2 :: e3 :: e4 :: f0 :: (87, Is (tabObj ps)) :: lB)) (x ++ (e1 :: e2 :: e3 :: e4 :: f0 :: lB)) := by
    have q : (e1 :: e2 :: e3 :: e4 :: f0 :: (87, Is (tabObj ps)) :: lB).Perm ((87, Is (tabObj ps)) :: e1 :: e2 :: e3 :: e4 :: f0 :: lB) := permIdx (es := [e1, e2, e3, e4, f0, (87, Is (tabObj ps))]) [5, 0, 1, 2, 3, 4] (by kernel_rfl)
    exact (Sees.of_sub ((q.append_left x).trans List.perm_middle).subset).trans (Sees.drop NoTup.tab (Sees.refl _))
  have hrv1 := hrv.mono fun _ _ hx => hx.sees hsee
  clear S hrv hsee
  generalize hl9 : x ++ (e1 :: e2 :: e3 :: e4 :: f0 :: lB) = l9 at *
  repeat' walk_at "m:step"
  refine methodCall_KW ?_
  repeat' walk_at "m:step"
  refine w_getMethodSort S1 (.tail _ (.tail _ (.head _))) ?_
  refine w_callKw0 rfl ?_
  refine kwAll_cons ?_
  refine kla_eval rfl ?_
  refine w_lamFn (pq := lcPq) (c := 89) (P := 87) (clos := []) S1 C.X.c87 T (.tail _ (.head _)) ?_ rfl rfl rfl fun f c' ctv ps2 new s2 S2 T2 hc2 => ?_
  · intro q hq
    simp only [lcPq, List.mem_cons, List.not_mem_nil, or_false] at hq
    rcases hq with rfl | rfl
    · intro e; exact absurd e (by decide)
    · intro _; rfl
  refine kwAll_nil ?_
  refine ⟨kp_builtin, ?_⟩
  have S3 : St C.X g s2 ((C.L, NsHas (C.b1 Rd)) :: (Rd, ListIs rvs) :: (87, Is (tabObj ps2)) :: (f, Is _) :: (new ++ l9)) := S2.perm (((((permNew (new := new) (es := [(Rd, ListIs rvs)]) (l := l9)).cons _).cons _).cons _).trans ((permIdx (es := [_, _, _]) [2, 0, 1] (by kernel_rfl)).cons _))
  refine w_lsortKey (kz := rs.map C.D.st) S3 (by rw [hrv1.length]; simp) (by rw [hrv1.length]; exact h64) ?_ ?_
  · intro i v k hv hk X' s' hw hT S' S'' Q hQ
    obtain ⟨k', hk', p, a, rfl, hN, hp, ha⟩ := hrv1.get hv
    have hkk : k = C.D.st k' := by rw [List.getElem?_map, hk'] at hk; simpa using hk.symm
    obtain ⟨of, hof, hoe⟩ := S''.get _ (.tail _ (.tail _ (.head _)))
    cases hoe
    have hlB : lB ⊆ l9 := hl9 ▸ fun e he => List.mem_append_right _ (.tail _ (.tail _ (.tail _ (.tail _ (.tail _ he)))))
    have hcr := S''.codeRec (c' := c') (.tail _ (.tail _ (.tail _ (by
      rcases List.mem_append.mp hc2 with h | h
      · exact List.mem_append_left _ h
      · exact List.mem_append_right _ (hlB h)))))
    obtain ⟨op, hop, t, n, rfl⟩ := S''.mem (.tail _ (.tail _ (.tail _ (List.mem_append_right _ hp))))
    have hM : C.X.M = X'.M := by unfold Cx.M; rw [hw]
    rw [hM]
    clear S'' S3 S2 S1
    refine w_lamAt S' (R.in1 (k := 44)) hof hcr (binds := [(Str.ofString "x", .ref p)]) rfl (fun Lx s3 S3 => ?_) (locs rfl) (by decide) rfl rfl rfl
    have hop3 := S3.keep _ _ (hT ▸ hop)
    repeat' walk_at "m:step"
    rename St _ _ _ _ => S4
    refine item_tupleT (l := [.int (id (C.D.st k')) t, .ref a]) ⟨_, S4.keep _ _ (hT ▸ hop), rfl, n, rfl⟩ (by decide) (by decide) (j := 0) (by rfl) rfl ?_
    subst hkk
    exact hQ _ _ (S4.sub (List.nil_sublist _))
  · intro s4 qs hperm hpw S4
    replace S4 : St C.X g s4 ((C.L, NsHas (C.b1 Rd)) :: (Rd, ListIs (qs.map Prod.snd)) :: (87, Is (tabObj ps2)) :: (new ++ l9)) := S4.sub (((List.sublist_cons_self _ _).cons_cons _).cons_cons _ |>.cons_cons _)
    obtain ⟨ks, hks, hall, hord⟩ := sorted_back hrv1 hperm hpw
    generalize List.map Prod.snd qs = svs at *
    clear S1 S2 S3 hperm hpw
    have hsl := hall.length
    have hkl := hks.length_eq
    repeat' walk_at "m:step"
    refine w_Assign_ListComp (cl := []) (by rfl) (by rfl) ?_
    repeat' walk_at "m:step"
    rename St _ _ _ _ => S5
    refine w_iterList (f := f0) S5 (.tail _ (.head _)) fun I s6 S6 => ?_
    refine w_compGo (It.list (A := A) R.hh I Rd svs) S6 fun Cc Dr s7 S7 => ?_
    refine w_compPairs (D := C.D) (f := id) (ks := ks) R.hh (hall.mono fun _ _ hx => hx.mono fun e he => .tail _ (.tail _ (.tail _ (List.mem_append_right _ he)))) (.tail _ (.head _)) (by omega) (fun i k v => RowV C.D ((Rd, ListIs svs) :: (87, Is (tabObj ps2)) :: (new ++ l9)) v k) S7 ?_ ?_ rfl rfl rfl
    · intro i k p a t ys s8 hv hk hkN hp ha S8
      repeat' walk_at "m:step"
      exact ⟨⟨a, rfl, hkN, (Sees.drop NoTup.ns (Sees.refl _)).row _ _ ha⟩, S8.wk .here (NsHas.wk fun p hp => nomatch hp)⟩
    · intro ys s9 hlen hG S9
      refine compPost_use (S9.perm (permIdx (es := [_, _, _]) [0, 2, 1] (by kernel_rfl))) (fun s10 S10 => ?_)
      repeat' walk_at "m:step"
      clear S9 S7 S6 S5
      replace S10 : St C.X g s10 ((C.L, NsHas ((Str.ofString "lcas", Value.ref Dr) :: C.b1 Rd)) :: (Dr, ListIs ys) :: (Rd, ListIs svs) :: (87, Is (tabObj ps2)) :: (new ++ l9)) := S10
      have hy : All2 (RowV C.D ((Rd, ListIs svs) :: (87, Is (tabObj ps2)) :: (new ++ l9))) ys ks := All2.of_get (hlen.trans hsl) fun i a b h1 h2 => hG i b a h1 h2
      have q : (new ++ l9).Perm (f0 :: ((new ++ (x ++ [e1, e2, e3, e4])) ++ lB)) := by
        subst hl9
        have := List.perm_middle (l₁ := new ++ (x ++ [e1, e2, e3, e4])) (a := f0) (l₂ := lB)
        simpa using this
      have S11 := S10.sub (List.sublist_cons_self _ _)
      have S12 : St C.X g s10 (f0 :: (87, Is (tabObj ps2)) :: (Dr, ListIs ys) :: ((Rd, ListIs svs) :: (new ++ (x ++ [e1, e2, e3, e4])) ++ lB)) := S11.perm ((((q.cons _).cons _).cons _).trans (permIdx (es := [_, _, _, _]) [3, 2, 0, 1] (by kernel_rfl)))
      have hsub : (Rd, ListIs svs) :: (87, Is (tabObj ps2)) :: (new ++ l9) ⊆ f0 :: (87, Is (tabObj ps2)) :: ((Rd, ListIs svs) :: (new ++ (x ++ [e1, e2, e3, e4])) ++ lB) := by
        intro e he
        rcases List.mem_cons.mp he with rfl | he
        · exact .tail _ (.tail _ (.head _))
        · rcases List.mem_cons.mp he with rfl | he
          · exact .tail _ (.head _)
          · rcases List.mem_cons.mp (q.subset he) with rfl | he
            · exact .head _
            · exact .tail _ (.tail _ (.tail _ he))
      refine h Dr ys ks ps2 _ s10 S12 (T2.mono fun c q hq => ?_) (hy.mono fun _ _ hx => hx.sees ((Sees.of_sub hsub).trans (Sees.drop hf0 (Sees.drop NoTup.tab (Sees.refl _))))) hks hord
      rcases List.mem_append.mp hq with hq | hq
      · exact List.mem_append_left _ (.tail _ (List.mem_append_left _ hq))
      · exact List.mem_append_right _ hq
end
end

section
theorem primeLcas : (fun (_ : OpenLaw) (_ : Params → Frag) => True) PySem.Challenge.rw_ft5005_01 hd.heap_39 := by k_fill; trivial
theorem FnAt90.mk {P : Params} {oc od name qual params body scope dV kV doc pm an cdv ct osl} (h : (hd.heap_39 P).lookup 90 = some ⟨oc, od, .func (fnOf name qual params body scope dV kV doc pm an cdv ct), osl⟩) : FnAt90 P body := ⟨_, _, _, _, _, _, _, _, _, _, _, _, _, _, h⟩
theorem FnAt90'.mk {P : Params} {oc od name qual params body scope dV kV doc pm an cdv ct osl} (h : (hd.heap_39 P).lookup 90 = some ⟨oc, od, .func (fnOf name qual params body scope dV kV doc pm an cdv ct), osl⟩) : FnAt90' P body qual scope cdv := ⟨_, _, _, _, _, _, _, _, _, _, _, h⟩
structure Cbs (X : Cx) (D : Dag) (P : LPar) (l : List Ent) (fU fC : Addr) : Prop where
  kpU : ∀ {g s l'}, l ⊆ l' → St X g s l' → Kp X (.ref fU) s.heap
  kpC : ∀ {g s l'}, l ⊆ l' → St X g s l' → Kp X (.ref fC) s.heap
  up : ∀ {A : Around} {g s l' Lf bf a k} {E : Value → Shared → Prop} {Q : Value → Shared → Prop}, l ⊆ l' → St X g s ((Lf, NsHas bf) :: l') → Rm A 40 → (a, RowIs (D.row k)) ∈ l' → k < D.N →
    (∀ p vs new s', St X g s' ((Lf, NsHas bf) :: (p, ListIs vs) :: (new ++ l')) → All2 (RowV D (new ++ l')) vs (P.par k) → Q (.ref p) s') → wpAny X.M A (call (.ref fU) [.ref a] []) Q E s
  clock : ∀ {A : Around} {g s l' f0 a k} {E : Value → Shared → Prop} {Q : Value → Shared → Prop}, l ⊆ l' → St X g s (f0 :: l') → Rm A 40 → (a, RowIs (D.row k)) ∈ l' → k < D.N →
    (∀ s' t, St X g s' (f0 :: l') → Q (.int (D.st k) t) s') → wpAny X.M A (call (.ref fC) [.ref a] []) Q E s
structure DOk (D : Dag) (P : LPar) : Prop where
  dOk : D.Ok
  ltOk : D.LtOk
  ltEq : P.lt = D.lt
  parN : ∀ k, k < D.N → ∀ p ∈ P.par k, p < D.N
  parL : ∀ k, k < D.N → (P.par k).length ≤ 24
section
variable {X : Cx} {g : Array GenState} {s : Shared} {l l' : List Ent} {A : Around} {E : Value → Shared → Prop} {env : Env}
theorem c_lcas {D : Dag} {P : LPar} {ps : Array Value} {f0 : Ent} {pos : List Value} {kw : List (Str × Value)} {fU fC a1 a2s : Addr} {m : Int} {tm : Tok} {k1 : Nat} {v2s : List Value} {k2s : List Nat} {n : Nat} {stF : LSt} {Q : Value → Shared → Prop}
    (S : St X g s (f0 :: (87, Is (tabObj ps)) :: l)) (R : Rm A 60) (hb : AllBare g) (T : TabOk l ps lcPq)
    (hbind : ∀ {oc od name qual params body scope dV kV doc pm an cdv ct osl}, (hd.heap_39 X.w.params).lookup 90 = some ⟨oc, od, .func (fnOf name qual params body scope dV kV doc pm an cdv ct), osl⟩ → BindsTo s (fnOf name qual params body scope dV kV doc pm an cdv ct) ⟨pos, kw⟩
      [(Str.ofString "lookup_parents", .ref fU), (Str.ofString "c1", .ref a1), (Str.ofString "c2s", .ref a2s), (Str.ofString "lookup_stamp", .ref fC), (Str.ofString "min_stamp", .int m tm), (Str.ofString "shallows", .none)])
    (h1 : (a1, RowIs (D.row k1)) ∈ l) (hk1 : k1 < D.N) (hc2 : (a2s, ListIs v2s) ∈ l) (hv2 : All2 (RowV D l) v2s k2s) (hl2 : k2s.length ≤ 24) (KC : Cbs X D P l fU fC) (DO : DOk D P) (hskip : ∀ k, k < D.N → P.skip k = decide (D.st k < m))
    (hrun : lRun P n (lInit P k1 k2s) = some stF) (hcl : stF.cs.length < 64) (hf0 : NoTup f0.2)
    (h : ∀ p lvs ks ps' new s' g', AllBare g' → St X g' s' (f0 :: (87, Is (tabObj ps')) :: (p, ListIs lvs) :: (new ++ l)) → TabOk (new ++ l) ps' lcPq → All2 (RowV D (new ++ l)) lvs ks → ks.Perm (lRes stF) → ks.Pairwise (fun i j => D.st i ≤ D.st j) → Q (.ref p) s') :
    wpAny X.M A (call (.ref 90) pos kw) Q E s := by
  have hb90 := @hbind
  refine' w_defC (binds := _) (cs := fun n => [(Str.ofString "_DNC", n)]) S R ?ho ?hcd ?hbind ?hcs ?hnd ?h ?hkind ?hsome ?hco ?hgen ?hk
  case ho => k_is
  case hcd => k_is
  case hbind => exact hbind (by k_is)
  case hcs => intro n; rfl
  case hnd => decide
  case hkind => rfl
  case hsome => exact some_of_names (cs := fun n => [(Str.ofString "_DNC", n)]) fun n => rfl
  case hco => rfl
  case hgen => rfl
  case hk => rfl
  intro L s1 S1
  clear hbind hb90
  replace S1 : St X g s1 ((L, NsHas [(Str.ofString "shallows", Value.none), (Str.ofString "min_stamp", .int m tm), (Str.ofString "lookup_stamp", .ref fC), (Str.ofString "c2s", .ref a2s), (Str.ofString "c1", .ref a1), (Str.ofString "lookup_parents", .ref fU)]) :: (L + 1, CellHas none) :: f0 :: (87, Is (tabObj ps)) :: l) := S1
  clear S
  repeat' walk_at "m:step"
  refine w_newList S1 (by rw [sizeLine_eq]; simp) fun Cd s2 S2 => ?_
  clear S1
  repeat' walk_at "m:step"
  rename St _ _ _ _ => S3
  refine w_newDict S3 fun d s4 hd1 S4 => ?_
  clear S3 S2
  repeat' walk_at "m:step"
  rename St _ _ _ _ => S5
  refine w_storeCell (c := L + 1) S5 (by rfl) (.there (.there (.there .here))) fun s6 S6 => ?_
  clear S5 S4
  repeat' walk_at "m:step"
  refine nestDef_K rfl rfl rfl ?_
  rename St _ _ _ _ => S7
  have S8 := S7.perm (permIdx (es := [_, _, _, _, _, _]) [0, 5, 1, 2, 3, 4] (by kernel_rfl))
  refine w_nestFn (pq := lcPq) (c := 89) (P := 87) (clos := [(Str.ofString "_DNC", L + 1)]) S8 X.c87 T (.head _) ?_ rfl rfl rfl fun fH c' doc ctv ps9 new9 s9 S9 T9 hc9 => ?_
  · intro q hq
    simp only [lcPq, List.mem_cons, List.not_mem_nil, or_false] at hq
    rcases hq with rfl | rfl
    · intro _; rfl
    · intro e; exact absurd e (by decide)
  clear S8 S7 S6
  obtain ⟨t1, t2, t4, t8, S10⟩ : ∃ t1 t2 t4 t8 : Tok, St X g s9 ((L, NsHas [(Str.ofString "_LCA", .int 8 t8), (Str.ofString "_ANC_OF_2", .int 2 t2), (Str.ofString "_ANC_OF_1", .int 1 t1), (Str.ofString "cstates", .ref d), (Str.ofString "cands", .ref Cd),
      (Str.ofString "shallows", Value.none), (Str.ofString "min_stamp", .int m tm), (Str.ofString "lookup_stamp", .ref fC), (Str.ofString "c2s", .ref a2s), (Str.ofString "c1", .ref a1), (Str.ofString "lookup_parents", .ref fU)]) ::
      (d, DictIs X []) :: (Cd, ListIs []) :: (fH, Is _) :: (L + 1, CellHas (some (.int 4 t4))) :: f0 :: (87, Is (tabObj ps9)) :: (new9 ++ l)) :=
    ⟨_, _, _, _, (S9.perm ((((permNew (new := new9) (es := [_, _, _, _]) (l := l)).cons _).cons _).cons _)).perm (permIdx (es := [_, _, _, _, _, _, _]) [0, 3, 4, 2, 5, 6, 1] (by kernel_rfl))⟩
  have hsB : l <:+ new9 ++ l := List.suffix_append _ _
  generalize hlB : new9 ++ l = lB at *
  have h1B := hsB.subset h1
  have hc2B := hsB.subset hc2
  clear S9
  generalize hpH : Is (fnMade (Str.ofString "_has_candidates") _ _ _ _ [(Str.ofString "_DNC", L + 1)] doc _ c' ctv) = pH at S10
  have hHas0 : ∀ {A : Around} {g : Array GenState} {s : Shared} {l' : List Ent} {f0 : Ent} {W dx Dl : Addr} {vs : List Value} {hs : List Nat} {xs : Xs} {fl : Nat → Nat} {E : Value → Shared → Prop} {Q : Value → Shared → Prop}, (fH, pH) ∈ l' → (c', CodeIs (Str.ofString "_find_lcas" ++ Str.ofString ".<locals>." ++ Str.ofString "_has_candidates")) ∈ l' → (L + 1, CellHas (some (.int 4 t4))) ∈ l' → (W, InstIs 80 dx) ∈ l' → (dx, AttrIs Dl) ∈ l' →
      St X g s (f0 :: l') → Rm A 40 → AllBare g → (Dl, ListIs vs) ∈ l' → All2 (PairV D (-·) l') vs hs → (d, DictIs X xs) ∈ l' → DFl D l' xs (valOf fl) →
      (∀ s' g', AllBare g' → St X g' s' (f0 :: l') → Q (.bool (hasC fl hs)) s') → wpAny X.M A (call (.ref fH) [.ref W, .ref d] []) Q E s := by
    intro A g s l' f0 W dx Dl vs hs xs fl E Q hf hc hcell hW hdx S R hb hDl hv hd F h
    subst hpH
    exact c_has (FnAt90.mk (by k_is)) (by exact rfl) S (R.le (by omega)) hb hf hc hcell hW hdx hDl hv hd hd1 F h
  have hKH0 : ∀ {g : Array GenState} {s : Shared} {l' : List Ent}, (fH, pH) ∈ l' → St X g s l' → Kp X (.ref fH) s.heap := by
    intro g s l' hf S
    subst hpH
    exact St.kpMade S hf
  clear hpH
  repeat' walk_at "m:step"
  rename St _ _ _ _ => S11
  refine w_newWL (k := 0) S11 ((R.deeper (k := 59) _).le (by omega)) fun W dx Dl s12 S12 => ?_
  clear S11 S10
  repeat' walk_at "m:step"
  rename St _ _ _ _ => S13
  rename Shared => s13
  obtain ⟨C, hC⟩ : ∃ C : LcCx, C = ⟨X, D, P, fU, fC, fH, W, dx, d, Dl, Cd, L, L + 1, m, tm, t1, t2, t4, t8, (W, InstIs 80 dx) :: (dx, AttrIs Dl) :: (fH, pH) :: (L + 1, CellHas (some (.int 4 t4))) :: f0 :: (87, Is (tabObj ps9)) :: lB⟩ := ⟨_, rfl⟩
  have hlC : C.l = (W, InstIs 80 dx) :: (dx, AttrIs Dl) :: (fH, pH) :: (L + 1, CellHas (some (.int 4 t4))) :: f0 :: (87, Is (tabObj ps9)) :: lB := by rw [hC]
  have hBC : lB ⊆ C.l := by rw [hlC]; exact fun e he => .tail _ (.tail _ (.tail _ (.tail _ (.tail _ (.tail _ he)))))
  have hLC : l ⊆ C.l := fun e he => hBC (hsB.subset he)
  have OC : C.Ok := by
    subst hC
    refine ⟨DO.dOk, DO.ltOk, DO.ltEq, DO.parN, DO.parL, hskip, .head _, .tail _ (.head _), .tail _ (.tail _ (.tail _ (.head _))), hd1, fun hl S => KC.kpU (fun e he => hl (hLC he)) S, fun hl S => KC.kpC (fun e he => hl (hLC he)) S, fun hl S => hKH0 (hl (.tail _ (.tail _ (.head _)))) S,
      fun hl S => KC.up (fun e he => hl (hLC he)) S, fun hl S => KC.clock (fun e he => hl (hLC he)) S, ?_⟩
    intro A g s l' f0 vs hs xs fl E Q hl S R hb hDl hv hd F h
    exact hHas0 (hl (.tail _ (.tail _ (.head _)))) (hl (hBC hc9)) (hl (.tail _ (.tail _ (.tail _ (.head _))))) (hl (.head _)) (hl (.tail _ (.head _))) S R hb hDl hv hd F h
  have S14 : St X g s13 ((L, NsHas ((Str.ofString "c1", .ref a1) :: (Str.ofString "c2s", .ref a2s) :: C.b)) :: (d, DictIs X []) :: (Dl, ListIs []) :: (Cd, ListIs []) :: C.l) := by
    rw [hlC]
    refine (S13.perm (permIdx (es := [_, _, _, _, _, _, _, _, _, _]) [0, 4, 1, 5, 2, 3, 6, 7, 8, 9] (by kernel_rfl))).wk .here (NsHas.wk ?_)
    intro p hp
    rw [hC] at hp
    simp only [LcCx.b, List.mem_cons, List.not_mem_nil, or_false] at hp
    rcases hp with rfl | rfl | rfl | rfl | rfl | rfl | rfl | rfl | rfl | rfl | rfl | rfl | rfl <;> rfl
  clear S13 S12
  have R' := R.deeper (k := 59) (envX (Str.ofString "") { kind := .function, names := [], isGenerator := false, isCoroutine := false } L 90 (.ref 89) [])
  have RA : ∀ {e : Env}, Rm (A.deeper e) 59 := fun {e} => R.deeper e
  have hCb : C.b = [(Str.ofString "lookup_parents", .ref fU), (Str.ofString "lookup_stamp", .ref fC), (Str.ofString "min_stamp", .int m tm), (Str.ofString "shallows", .none), (Str.ofString "cands", .ref Cd), (Str.ofString "cstates", .ref d),
  (Str.ofString "_ANC_OF_1", .int 1 t1), (Str.ofString "_ANC_OF_2", .int 2 t2), (Str.ofString "_LCA", .int 8 t8), (Str.ofString "_has_candidates", .ref fH), (Str.ofString "wlst", .ref W)] := by rw [hC]; rfl
  have h1C : (a1, RowIs (D.row k1)) ∈ C.l := hBC h1B
  have hWC : (W, InstIs 80 dx) ∈ C.l := by rw [hlC]; exact .head _
  have hdxC : (dx, AttrIs Dl) ∈ C.l := by rw [hlC]; exact .tail _ (.head _)
  have up4 : ∀ {a b c d : Ent} {m : List Ent}, m ⊆ a :: b :: c :: d :: m := fun {a b c d m} e he => .tail _ (.tail _ (.tail _ (.tail _ he)))
  have up3 : ∀ {b c d : Ent} {m : List Ent}, m ⊆ b :: c :: d :: m := fun {b c d m} e he => .tail _ (.tail _ (.tail _ he))
  rw [hCb] at S14
  repeat' walk_at "m:step"
  refine w_dictSetU DO.dOk S14 (DFl.nil D _) (up4 h1C) hk1 RA.u1 (.there .here) fun s15 S15 _ => ?_
  have F15 := (DFl.nil D C.l).stored DO.dOk (i := 1) (t := t1) hk1 h1C
  rw [valOf_first] at F15
  clear S14
  repeat' walk_at "m:step"
  refine ⟨KC.kpC (fun e he => up4 (hLC he)) S15, ?_⟩
  refine KC.clock (fun e he => up3 (hLC he)) S15 (RA.le (by omega)) (up3 h1C) hk1 fun s16 t16 S16 => ?_
  clear S15
  repeat' walk_at "m:step"
  refine w_newTuple S16 (by rw [sizeLine_eq]; simp) fun q s17 S17 => ?_
  replace S17 := S17.wk (P' := PairIs (D.st k1) a1) (.there .here) (fun o h => ⟨_, h⟩)
  clear S16
  repeat' walk_at "m:step"
  have S18 := S17.perm (permIdx (es := [_, _, _, _]) [3, 0, 1, 2] (by kernel_rfl))
  refine c_add DO.ltOk (l₀ := C.l) (fun e he => .tail _ (.tail _ (.tail _ (.tail _ he)))) S18 (RA.le (by omega)) (.tail _ (.tail _ (.tail _ (.tail _ hWC)))) (.tail _ (.tail _ (.tail _ (.tail _ hdxC)))) (.tail _ (.head _)) h1C hk1 (.nil) (by decide) fun vs19 s19 q3 S19 hv19 => ?_
  dsimp only
  repeat' walk_at "m:step"
  have S20 := S19.perm (permIdx (es := [_, _, _, _, _, _]) [2, 4, 0, 5, 1, 3] (by kernel_rfl))
  clear S19 S18 S17
  refine w_For ?_
  repeat' walk_at "m:step"
  refine w_iterList (f := f0) S20 (.tail _ (.tail _ (.tail _ (.tail _ (.tail _ (.tail _ (hBC hc2B))))))) fun I s21 S21 => ?_
  have S22 := S21.wk (P' := NsHas C.b) (.there .here) (NsHas.wk (by
    intro p hp
    rw [hCb] at hp
    simp only [List.mem_cons, List.not_mem_nil, or_false] at hp
    rcases hp with rfl | rfl | rfl | rfl | rfl | rfl | rfl | rfl | rfl | rfl | rfl <;> rfl))
  clear S21 S20
  have hlt := DO.ltEq
  refine w_forLoop (It.list (A := _) RA.hh I a2s v2s) (fun i b l => b = C.b ∧ ∃ F'' hs'' xs'' vs'' l7, (k2s.take i).foldl (cStep P) (flOr 0 k1 1, hPush P.lt [] k1) = (F'', hs'') ∧ l = (d, DictIs X xs'') :: (Dl, ListIs vs'') :: (Cd, ListIs []) :: l7 ∧ C.l <:+ l7 ∧
      DFl D l7 xs'' (valOf (flAt F'')) ∧ All2 (PairV D (-·) l7) vs'' hs'' ∧ (∀ j ∈ hs'', flAt F'' j ≠ 0) ∧ hs''.length = 1 + i) ?_ S22 ⟨rfl, _, _, _, _, (q3, PairIs (-(D.st k1)) a1) :: (q, PairIs (D.st k1) a1) :: C.l, rfl, rfl, (List.suffix_cons _ _).trans (List.suffix_cons _ _), F15.sees (.of_sub fun _ hx => .tail _ (.tail _ hx)), ?_, ?_, ?_⟩ ?_ ?_
  · rintro i b l ⟨rfl, F'', hs'', xs'', vs'', l7, _, rfl, hs7, _⟩ p hp
    rcases List.mem_singleton.mp hp with rfl
    exact .tail _ (.tail _ (.tail _ (hs7.subset (hBC hc2B))))
  · rw [hlt]
    exact hv19.mono fun _ _ hx => hx.mono fun e he => by
      rcases List.mem_cons.mp he with rfl | he
      · exact .head _
      · exact .tail _ (.tail _ he)
  · intro j hj
    rcases hPush_mem hj with hj | rfl
    · cases hj
    · exact flAt_or_self (by decide) (by decide)
  · rw [hPush_length]; rfl
  · rintro i v b l15 s23 hi hv ⟨rfl, F'', hs'', xs'', vs'', l7, hfold, rfl, hs7, F7, hvs7, hnz7, hlen7⟩ S23
    obtain ⟨pk, hpk, pa, rfl, hpN, hpa0⟩ := hv2.get hv
    have hC7 := hs7.subset
    have hpa := hC7 (hLC hpa0)
    have hv2l := hv2.length
    have hW7 := hC7 hWC
    have hdx7 := hC7 hdxC
    have up5 : ∀ {a b c d e : Ent} {m : List Ent}, m ⊆ a :: b :: c :: d :: e :: m := fun {a b c d e m} x hx => .tail _ (.tail _ (.tail _ (.tail _ (.tail _ hx))))
    rw [hCb] at S23
    repeat' walk_at "m:step"
    rename St _ _ _ _ => S24
    refine w_dictGet2 S24 (.tail _ (.tail _ (.head _))) hd1 (F7.sees (.of_sub up5)) (up5 hpa) hpN RA.u1 fun s25 t25 S25 => ?_
    rw [valOf_getD]
    clear S24 S23
    repeat' walk_at "m:step"
    rw [show Builtin.bitOr (flAt F'' pk : Int) 2 = ((flAt F'' pk ||| 2 : Nat) : Int) from or_nat _ 2]
    rename St _ _ _ _ => S26
    refine w_dictSetU DO.dOk S26 (F7.sees (.of_sub up5)) (up5 hpa) hpN RA.u1 (.there (.there .here)) fun s27 S27 _ => ?_
    clear S26 S25
    repeat' walk_at "m:step"
    rename St _ _ _ _ => S28
    refine ⟨KC.kpC (fun e he => up5 (hC7 (hLC he))) S28, ?_⟩
    refine KC.clock (fun e he => up4 (hC7 (hLC he))) S28 (RA.le (by omega)) (up4 hpa) hpN fun s29 t29 S29 => ?_
    clear S28
    try clear S27
    repeat' walk_at "m:step"
    refine w_newTuple S29 (by rw [sizeLine_eq]; simp) fun q2 s30 S30 => ?_
    replace S30 := S30.wk (P' := PairIs (D.st pk) pa) (.there .here) (fun o h => ⟨_, h⟩)
    clear S29
    repeat' walk_at "m:step"
    have S31 := S30.perm (permIdx (es := [_, _, _, _, _, _]) [4, 0, 1, 2, 3, 5] (by kernel_rfl))
    refine c_add DO.ltOk (l₀ := l7) (fun e he => up5 he) S31 (RA.le (by omega)) (up5 (hC7 hWC)) (up5 (hC7 hdxC)) (.tail _ (.head _)) hpa hpN hvs7 (by omega) fun vs32 s32 q4 S32 hv32 => ?_
    dsimp only
    repeat' walk_at "m:step"
    have S33 := S32.perm (permIdx (es := [_, _, _, _, _, _, _]) [2, 4, 5, 0, 6, 1, 3] (by kernel_rfl))
    refine ⟨C.b, _, ⟨rfl, flOr F'' pk 2, hPush P.lt hs'' pk, _, vs32, (q4, PairIs (-(D.st pk)) pa) :: (q2, PairIs (D.st pk) pa) :: l7, ?_, rfl, hs7.trans ((List.suffix_cons _ _).trans (List.suffix_cons _ _)), ?_, ?_, ?_, ?_⟩, S33.wk .here (NsHas.wk ?_)⟩
    · rw [cfold_take hpk, hfold]
    · rw [← valOf_or (by decide) (or_nz' (by decide))]
      exact (F7.stored DO.dOk hpN hpa).sees (.of_sub fun _ hx => .tail _ (.tail _ hx))
    · rw [hlt]
      exact hv32.mono fun _ _ hx => hx.mono fun e he => by
        rcases List.mem_cons.mp he with rfl | he
        · exact .head _
        · exact .tail _ (.tail _ he)
    · intro j hj
      rcases hPush_mem hj with hj | rfl
      · exact flAt_or_nz (by decide) (hnz7 j hj)
      · exact flAt_or_self (by decide) (by decide)
    · rw [hPush_length]; omega
    · intro p hp
      rw [hCb] at hp
      simp only [List.mem_cons, List.not_mem_nil, or_false] at hp
      rcases hp with rfl | rfl | rfl | rfl | rfl | rfl | rfl | rfl | rfl | rfl | rfl <;> rfl
  · rintro b l15 s23 ⟨rfl, F'', hs'', xs'', vs'', l7, hfold, rfl, hs7, F7, hvs7, hnz7, hlen7⟩ S23
    dsimp only
    rw [hv2.length, List.take_length] at hfold
    have hinit : lInit P k1 k2s = ⟨F'', hs'', []⟩ := by
      unfold lInit
      rw [show (fun (x : Nat × List Nat) k => (flOr x.1 k 2, hPush P.lt x.2 k)) = cStep P from rfl, hfold]
    rw [hinit] at hrun
    refine execs_one (fun s' => ∃ g', C.At C.b stF g' s') ?_ ?_
    · have hAt : C.At C.b ⟨F'', hs'', []⟩ g s23 := by
        subst hC
        exact ⟨xs'', vs'', [], l7, S23, hs7, F7, hvs7, .nil, hb, hnz7, fun j hj => nomatch hj⟩
      subst hC
      exact lc_while _ OC (FnAt90'.mk (by k_is)) (by exact rfl) (RA.le (k := 59) (j := 45) (by omega)) hAt hrun fun g' s' h => ⟨rfl, g', h⟩
    · rintro s24 ⟨g24, hAt⟩
      have hb24 : AllBare g24 := by obtain ⟨_, _, _, _, _, _, _, _, _, hb24, _⟩ := hAt; exact hb24
      subst hC
      refine lc_res _ OC (FnAt90'.mk (by k_is)) (by exact rfl) (by exact rfl) (RA.le (k := 59) (j := 45) (by omega)) hAt hcl fun s' Rd rvs l7 S hs hv h64 => ?_
      refine lc_end _ OC (FnAt90'.mk (by k_is)) (by exact rfl) (by exact rfl) (by exact rfl) (RA.le (k := 59) (j := 45) (by omega)) rfl hf0 T9 S hs hv h64 fun p lvs ks ps' new s2 S2 T2 hv2 hp2 ho2 => ?_
      subst hlB
      rw [← List.append_assoc] at S2 T2 hv2
      exact h p lvs ks ps' (new ++ new9) s2 g24 hb24 S2 T2 hv2 hp2 ho2
end
end

section
theorem primeMore : (fun (_ : OpenLaw) (_ : Params → Frag) => True) PySem.Challenge.rw_ft5005_01 hd.heap_39 := by k_fill; trivial
section
variable {X : Cx} {g : Array GenState} {s : Shared} {l l' : List Ent} {A : Around} {E : Value → Shared → Prop} {env : Env}
/-- a tuple of ints put in order -/
theorem w_sortedRow {a : Addr} {r : List Int} {f : Ent} {Q : Value → Shared → Prop} (S : St X g s (f :: l)) (hm : (a, RowIs r) ∈ f :: l) (h64 : r.length < 64)
    (h : ∀ D s' vs' ns', St X g s' (f :: (D, ListIs vs') :: l) → IntsAre vs' ns' → ns'.Perm r → ns'.Pairwise (· ≤ ·) → Q (.ref D) s') : wpAny X.M A (call (.builtin "sorted") [.ref a]) Q E s := by
  obtain ⟨o, ho, vs, ⟨n, rfl⟩, hi⟩ := S.mem hm
  have hlen := hi.length
  refine Calls.call_function_entry kind_sorted plain_sorted entry_sorted (args_sorted1 _) ?_
  unfold Builtin.«sorted»
  refine wpAny_bind (m := checkCount "sorted" 1 1 _) (wpAny_pure ?_)
  refine wpAny_bind (wpAny_collect_seq a (.inr rfl) ho rfl rfl (fun h1 hk1 => ?_) (by rw [List.size_toArray, sizeLine_eq]; omega))
  refine wpAny_bind (wpAny_newList ?_ (by rw [sizeLine_eq]; simp; omega))
  show wpAny _ _ _ _ _ { s with heap := h1.push (seqObj "list" vs.toArray 0) }
  have hoL : (h1.push (seqObj "list" vs.toArray 0)).get? h1.objs.size = some (seqObj "list" vs.toArray 0) := Heap.get?_push_size _ rfl
  refine wpAny_bind (wpAny_holding (wpAny_call_entry slot_list_sort ⟨_, hoL, rfl⟩ entry_list_sort (list_sort_tree hoL hi (by omega) fun out ns' a1 a2 a3 => ⟨_, rfl, ?_⟩) (args_list_sort _)))
  refine wpAny_pure ⟨_, rfl, ?_⟩
  obtain ⟨e, he⟩ := sortedHeap_at (out := out) hoL
  have S1 : St X g { s with heap := h1 } (f :: l) := S.all (s' := { s with heap := h1 }) hk1
  refine h h1.objs.size _ out.toList ns' (St.swap (St.add (s := { s with heap := h1 }) S1 (fun b o e => ?_) (none_size (Nat.le_refl _)) he ⟨e, by simp⟩ S1.ne_size)) a1 a2 a3
  have hb := Heap.lt_size e
  exact (sortedHeap_old (Nat.ne_of_lt hb) (by rw [size_push']; exact Nat.lt_succ_of_lt hb)).trans (Heap.get?_push_of_some _ e)
/-- a list copied -/
theorem w_listList {a : Addr} {vs : List Value} {f : Ent} {Q : Value → Shared → Prop} (S : St X g s (f :: l)) (hm : (a, ListIs vs) ∈ f :: l) (hz : vs.length ≤ 1000)
    (h : ∀ D s', St X g s' (f :: (D, ListIs vs) :: l) → Q (.ref D) s') : wpAny X.M A (call (.type "list") [.ref a]) Q E s := by
  obtain ⟨o, ho, hc, n, hd⟩ := S.isList hm
  exact call_list_seq (hsz := by rw [List.size_toArray, sizeLine_eq]; omega) a (.inl rfl) ho hc hd fun h' c' hk hD =>
    h _ _ ((S.add (s' := { s with heap := h' }) hk (none_size (Nat.le_refl _)) hD ⟨c', rfl⟩ S.ne_size).swap)
/-- a row in a list of rows -/
theorem w_inRows {D : Dag} (O : D.Ok) {a Rd : Addr} {items : List Value} {ks : List Nat} {k : Nat} {Q : Value → Shared → Prop} (S : St X g s l) (hu : A.units + 3 < cLine) (hR : (Rd, ListIs items) ∈ l) (hk : All2 (RowV D l) items ks) (hkN : k < D.N) (ha : (a, RowIs (D.row k)) ∈ l)
    (h : Q (.bool (decide (k ∈ ks))) s) : wpAny X.M A (compareOp .In (.ref a) (.ref Rd)) Q E s := by
  have uniq : ∀ y k', RowV D l y k' → (RowV D l y k ↔ k' = k) := by
    rintro y k' ⟨p, rfl, hN, hp⟩
    constructor
    · rintro ⟨p2, e, hN2, hp2⟩
      cases e
      exact O.inj _ _ hN hN2 (S.row_inj hp hp2)
    · rintro rfl; exact ⟨p, rfl, hN, hp⟩
  have key : ∃ e : Value → Bool, ∀ y k', RowV D l y k' → e y = decide (k' = k) := by
    classical
    exact ⟨fun y => decide (RowV D l y k), fun y k' hy => decide_eq_decide.mpr (uniq y k' hy)⟩
  obtain ⟨e, he⟩ := key
  refine PySem.SeqAt.in_listAt e (S.isList hR) (fun y hy => ?_) ?_
  · obtain ⟨k', _, hv⟩ := hk.mem y (by simpa using hy)
    rw [he y k' hv]
    obtain ⟨p, rfl, hN, hp⟩ := hv
    have := S.eqRow (A := A.in1) (show A.units + 1 < cLine by omega) hp ha
    have e2 : decide (D.row k' = D.row k) = decide (k' = k) := by
      by_cases hkk : k' = k
      · subst hkk; simp
      · have : ¬ D.row k' = D.row k := fun q => hkk (O.inj _ _ hN hkN q)
        simp [hkk, this]
    rw [← e2]; exact this
  · have hany : items.any e = decide (k ∈ ks) := by
      clear h hR
      induction hk with
      | nil => simp
      | @cons v k' vs ks hv _ ih =>
        rw [List.any_cons, ih, he v k' hv]
        by_cases e : k' = k
        · simp [e]
        · have : ¬ k = k' := fun q => e q.symm
          simp [e, this]
    rw [show items.toArray.any e = items.any e by simp, hany]
    exact h
theorem RowV.rows {D : Dag} {vs : List Value} {ks : List Nat} (h : All2 (RowV D l) vs ks) : RowsAre l vs (ks.map D.row) := by
  induction h with
  | nil => exact .nil
  | cons h _ ih => exact .cons (let ⟨a, e, _, m⟩ := h; ⟨a, e, m⟩) ih
theorem RowV.lt {D : Dag} {vs : List Value} {ks : List Nat} (h : All2 (RowV D l) vs ks) : ∀ k ∈ ks, k < D.N := by
  induction h with
  | nil => intro k hk; cases hk
  | cons h _ ih =>
    intro k hk
    rcases List.mem_cons.mp hk with rfl | hk
    · obtain ⟨_, _, hN, _⟩ := h; exact hN
    · exact ih k hk
theorem Dag.Ok.map_inj {D : Dag} (O : D.Ok) : ∀ {ks js : List Nat}, (∀ k ∈ ks, k < D.N) → (∀ k ∈ js, k < D.N) → (ks.map D.row = js.map D.row ↔ ks = js)
  | [], [], _, _ => by simp
  | [], _ :: _, _, _ => by simp
  | _ :: _, [], _, _ => by simp
  | a :: ks, b :: js, h1, h2 => by
    simp only [List.map_cons, List.cons.injEq]
    rw [O.map_inj (fun k hk => h1 k (.tail _ hk)) (fun k hk => h2 k (.tail _ hk))]
    exact ⟨fun ⟨x, y⟩ => ⟨O.inj _ _ (h1 a (.head _)) (h2 b (.head _)) x, y⟩, fun ⟨x, y⟩ => ⟨x ▸ rfl, y⟩⟩
/-- two lists of rows told by their numbers -/
theorem w_eqKs {D : Dag} (O : D.Ok) {a b : Addr} {vs us : List Value} {ks js : List Nat} {Q : Value → Shared → Prop} (S : St X g s l) (hu : A.units + 64 < cLine) (ha : (a, ListIs vs) ∈ l) (hb : (b, ListIs us) ∈ l) (hv : All2 (RowV D l) vs ks) (hw : All2 (RowV D l) us js)
    (h : Q (.bool (decide (ks = js))) s) : wpAny X.M A (compareOp .Eq (.ref a) (.ref b)) Q E s := by
  refine w_eqRows S hu ha hb (RowV.rows hv) (RowV.rows hw) ?_
  rw [show decide (ks.map D.row = js.map D.row) = decide (ks = js) from decide_eq_decide.mpr (O.map_inj (RowV.lt hv) (RowV.lt hw))]
  exact h
theorem w_neKs {D : Dag} (O : D.Ok) {a b : Addr} {vs us : List Value} {ks js : List Nat} {Q : Value → Shared → Prop} (S : St X g s l) (hu : A.units + 64 < cLine) (ha : (a, ListIs vs) ∈ l) (hb : (b, ListIs us) ∈ l) (hv : All2 (RowV D l) vs ks) (hw : All2 (RowV D l) us js)
    (h : Q (.bool (!decide (ks = js))) s) : wpAny X.M A (compareOp .NotEq (.ref a) (.ref b)) Q E s := by
  refine w_neRows S hu ha hb (RowV.rows hv) (RowV.rows hw) ?_
  rw [show decide (ks.map D.row = js.map D.row) = decide (ks = js) from decide_eq_decide.mpr (O.map_inj (RowV.lt hv) (RowV.lt hw))]
  exact h
theorem w_eqK {D : Dag} (O : D.Ok) {a b : Addr} {k j : Nat} {Q : Value → Shared → Prop} (S : St X g s l) (hu : A.units + 64 < cLine) (ha : (a, RowIs (D.row k)) ∈ l) (hb : (b, RowIs (D.row j)) ∈ l) (hk : k < D.N) (hj : j < D.N)
    (h : Q (.bool (decide (k = j))) s) : wpAny X.M A (compareOp .Eq (.ref a) (.ref b)) Q E s := by
  refine w_eqRow S hu ha hb ?_
  rw [show decide (D.row k = D.row j) = decide (k = j) from decide_eq_decide.mpr ⟨O.inj _ _ hk hj, fun e => e ▸ rfl⟩]
  exact h
end
end

section
theorem primeKw : (fun (_ : OpenLaw) (_ : Params → Frag) => True) PySem.Challenge.rw_ft5005_01 hd.heap_39 := by k_fill; trivial
theorem fn90all (P : Params) {oc od name qual params body scope dV kV doc pm an cdv ct osl} (h : (hd.heap_39 P).lookup 90 = some ⟨oc, od, .func (fnOf name qual params body scope dV kV doc pm an cdv ct), osl⟩)
   {oc' od' name' qual' params' body' scope' dV' kV' doc' pm' an' cdv' ct' osl'} (h' : (hd.heap_39 P).lookup 90 = some ⟨oc', od', .func (fnOf name' qual' params' body' scope' dV' kV' doc' pm' an' cdv' ct'), osl'⟩) :
    fnOf name qual params body scope dV kV doc pm an cdv ct = fnOf name' qual' params' body' scope' dV' kV' doc' pm' an' cdv' ct' := by
  rw [h] at h'; injection h' with h'; injection h' with _ _ h' _; injection h'
theorem look85 (P : Params) : (hd.heap_39 P).lookup 85 = some { cls := .type "tuple", data := .seq #[.int 0 381, .none] } := by k_is
section
variable {X : Cx} {g : Array GenState} {s : Shared} {l l' : List Ent} {A : Around} {E : Value → Shared → Prop} {env : Env}
theorem w_callKw {pos : Pos} {fv : Value} {first : List Value} {e : Expr} {rest : List Expr} {kws : List Keyword} {Q : Value → Shared → Prop} (hall : (backToKw pos (keywordEach kws env)).all (·.1.isSome) = true)
    (h : wpAny X.M A (spliced (backTo pos (starEach (e :: rest) env))) (fun vs s₁ => wpAny X.M A (evalAll ((backToKw pos (keywordEach kws env)).map (·.2)))
      (fun ks s₂ => Kp X fv s₂.heap ∧ wpAny X.M A (call fv (first ++ vs) (((backToKw pos (keywordEach kws env)).filterMap (·.1)).zip ks)) Q E s₂) E s₁) E s)
    (he : starEach (e :: rest) env = (false, eval e env) :: starEach rest env := by rfl)
    (hplain : ((backTo pos (starEach (e :: rest) env)).any (·.1) || (backToKw pos (keywordEach kws env)).any (·.1.isNone)) = false := by rfl) :
    wpAny X.M A (callWith pos fv first (backTo pos (starEach (e :: rest) env)) (backToKw pos (keywordEach kws env))) Q E s :=
  callWith_of (P := fun h => Kp X fv h) hplain (fun _ x => x) (evalArgs_kw2 hall h he)
theorem bind90a (S : St X g s l) (u a b c sh : Value) {oc od name qual params body scope dV kV doc pm an cdv ct osl} (h : (hd.heap_39 X.w.params).lookup 90 = some ⟨oc, od, .func (fnOf name qual params body scope dV kV doc pm an cdv ct), osl⟩) :
    BindsTo s (fnOf name qual params body scope dV kV doc pm an cdv ct) ⟨[u, a, b, c], [(Str.ofString "shallows", sh)]⟩
      [(Str.ofString "lookup_parents", u), (Str.ofString "c1", a), (Str.ofString "c2s", b), (Str.ofString "lookup_stamp", c), (Str.ofString "min_stamp", .int 0 381), (Str.ofString "shallows", sh)] := by
  rw [fn90all _ h (by k_is)]
  exact BindsTo.of_defaults rfl (S.keep _ _ (X.inK _ _ (look85 _))) rfl rfl rfl
theorem bind90b (S : St X g s l) (u a b c m sh : Value) {oc od name qual params body scope dV kV doc pm an cdv ct osl} (h : (hd.heap_39 X.w.params).lookup 90 = some ⟨oc, od, .func (fnOf name qual params body scope dV kV doc pm an cdv ct), osl⟩) :
    BindsTo s (fnOf name qual params body scope dV kV doc pm an cdv ct) ⟨[u, a, b, c], [(Str.ofString "min_stamp", m), (Str.ofString "shallows", sh)]⟩
      [(Str.ofString "lookup_parents", u), (Str.ofString "c1", a), (Str.ofString "c2s", b), (Str.ofString "lookup_stamp", c), (Str.ofString "min_stamp", m), (Str.ofString "shallows", sh)] := by
  rw [fn90all _ h (by k_is)]
  first
    | exact BindsTo.of_eq rfl
    | exact BindsTo.of_defaults rfl (S.keep _ _ (X.inK _ _ (look85 _))) rfl rfl rfl
theorem code_ne_ns {b : List (Str × Value)} {q : Str} : CodeIs q ≠ NsHas b := by
  intro e
  have : CodeIs q { cls := .none, data := .fields #[.none, .str q 0] } := ⟨_, 0, rfl, rfl⟩
  rw [e] at this
  obtain ⟨es, ep, h, _⟩ := this
  cases h
theorem TabOk.dropNs {l : List Ent} {L : Addr} {b : List (Str × Value)} {ps : Array Value} {pq : List (Pos × Str)} {l' : List Ent} (T : TabOk l ps pq) (h : l ⊆ (L, NsHas b) :: l') : TabOk l' ps pq :=
  T.mono fun c q hm => by
    rcases List.mem_cons.mp (h hm) with e | hm
    · exact absurd (Prod.mk.inj e).2 code_ne_ns
    · exact hm
end
def Stop (p : Prop) : Prop := p
theorem stop_of {p : Prop} (h : Stop p) : p := h
theorem w_part {M : Model} {A : Around} {E : Value → Shared → Prop} {s : Shared} {env : Env} {e : Expr} {Q : Value → Shared → Prop} (h : wpAny M A (eval e env) Q E s) : wpAny M A (evalPart (some e) env) Q E s := h
theorem Rm.u3 {A : Around} {k : Nat} (R : Rm A k) : A.units + 3 < cLine := by have := R.hu; omega
theorem Rm.u64 {A : Around} {k : Nat} (R : Rm A (k + 30)) : A.units + 64 < cLine := by have := R.hu; omega
theorem up1 {a : Ent} {m : List Ent} : m ⊆ a :: m := fun e he => .tail _ he
theorem up2 {a b : Ent} {m : List Ent} : m ⊆ a :: b :: m := fun e he => .tail _ (.tail _ he)
theorem up3 {a b c : Ent} {m : List Ent} : m ⊆ a :: b :: c :: m := fun e he => .tail _ (.tail _ (.tail _ he))
theorem up4 {a b c d : Ent} {m : List Ent} : m ⊆ a :: b :: c :: d :: m := fun e he => .tail _ (.tail _ (.tail _ (.tail _ he)))
theorem up5 {a b c d f : Ent} {m : List Ent} : m ⊆ a :: b :: c :: d :: f :: m := fun e he => .tail _ (.tail _ (.tail _ (.tail _ (.tail _ he))))
theorem moveF {new l : List Ent} {e f : Ent} : (new ++ (e :: f :: l)).Perm (f :: ((new ++ [e]) ++ l)) := by
  have := List.perm_middle (l₁ := new ++ [e]) (a := f) (l₂ := l)
  simpa using this
theorem moveF0 {new l : List Ent} {f : Ent} : (new ++ (f :: l)).Perm (f :: (new ++ l)) := List.perm_middle
end

end Mine

namespace Mine
local macro_rules | `(tactic| walk_at "m:mem") => `(tactic| first | exact List.Mem.head _ | assumption | (refine List.Mem.tail _ ?_; walk_at "m:mem") | (refine List.mem_append_right _ ?_; walk_at "m:mem"))
local macro_rules | `(tactic| walk_at "m:glob") => `(tactic| first | exact n_len _ | exact n_range _ | exact n_sorted _ | exact n_abs _ | exact n_list _ | exact n_enumerate _ | k_is)
local macro_rules | `(tactic| walk_at "m:boot") => `(tactic| first | exact PySem.boot_len | exact PyProof.Rows.boot_range | exact PyProof.Rows.boot_sorted | exact PyProof.Rows.boot_abs | exact PyProof.Rows.boot_list | exact PyProof.Rows.boot_enumerate)
local macro_rules | `(tactic| walk_at "m:name") => `(tactic| first
  | (refine' w_local (by assumption) ?mhb ?_; (case mhb => exact rfl))
  | (refine' w_cell (by assumption) ?mhc ?mhm ?_; (case mhc => exact rfl); (case mhm => walk_at "m:mem"))
  | (refine' w_builtin (by assumption) ?mhe ?mhv ?_; (case mhe => walk_at "m:glob"); (case mhv => walk_at "m:boot"))
  | (refine' w_global (by assumption) ?mhe ?_; (case mhe => walk_at "m:glob"))
  | (refine' w_free (by assumption) ?mhc ?mhm ?_; (case mhc => exact rfl); (case mhm => walk_at "m:mem")))
local macro_rules | `(tactic| walk_at "m:kp") => `(tactic| first | exact kp_builtin | exact kp_type | exact kp_K (by assumption) (by k_is))
local macro_rules | `(tactic| walk_at "m:step") => `(tactic| first
  | with_reducible refine wpAny_items_nil ?_
  | ((with_reducible refine gd0 ?_); refine wpAny_items_cons ?_)
  | with_reducible refine wpAny_execs_nil ?_
  | with_reducible refine wpAny_execs_cons ?_
  | ((with_reducible refine gd1 ?_); walk_at "m:name")
  | ((with_reducible refine w_int (by assumption) ?_); intro _ _ _)
  | with_reducible refine wpAny_BinOp ?_
  | with_reducible refine PyProof.Rows.Subscript_ ?_
  | ((with_reducible refine gd2 ?_); refine w_Call ?_)
  | ((with_reducible refine gd3 ?_); refine wpAny_Compare1 ?_)
  | ((with_reducible refine gd4 ?_); refine wpAny_isTrue_Compare1 ?_)
  | with_reducible refine wpAny_truthy_bool ?_
  | with_reducible refine PyProof.Rows.gt_int ?_
  | with_reducible refine PyProof.Rows.lt_int ?_
  | with_reducible refine PyProof.Rows.eq_int ?_
  | with_reducible refine PyProof.Rows.ne_int ?_
  | ((with_reducible refine w_add (by assumption) ?_); intro _ _ _)
  | ((with_reducible refine w_sub (by assumption) ?_); intro _ _ _)
  | ((with_reducible refine w_and (by assumption) ?_); intro _ _ _)
  | ((with_reducible refine w_or (by assumption) ?_); intro _ _ _)
  | ((with_reducible refine w_neg (by assumption) ?_); intro _ _ _)
  | with_reducible refine wpAny_If ?_
  | ((with_reducible refine gd5 ?_); refine wpAny_Assign_Name ?_)
  | with_reducible refine wpAny_Return_some ?_
  | with_reducible refine wpAny_IfExp ?_
  | with_reducible refine wpAny_UnaryOp ?_
  | with_reducible refine wpAny_isTrue_Not ?_
  | with_reducible refine wpAny_Constant_none ?_
  | with_reducible refine wpAny_Constant_bool ?_
  | with_reducible refine wpAny_Continue ?_
  | with_reducible refine wpAny_Break ?_
  | with_reducible refine wpAny_isTrue_BoolOp ?_
  | with_reducible refine wpAny_allTrue_And_cons ?_
  | with_reducible refine wpAny_allTrue_And_nil ?_
  | with_reducible refine wpAny_allTrue_Or_cons ?_
  | with_reducible refine wpAny_allTrue_Or_nil ?_
  | ((with_reducible refine gd6 ?_); (refine w_store (by assumption) ?_); intro _ _)
  | (with_reducible refine PyProof.Rows.Tuple_ ?_)
  | (with_reducible refine PyProof.Rows.List_ ?_)
  | (with_reducible refine' And.intro ?mkp ?_; (case mkp => walk_at "m:kp"))
  | (with_reducible refine w_range1 (by assumption) ?_; intro _ _ _)
  | (with_reducible refine w_range2 (by assumption) ?_; intro _ _ _)
  | dsimp only)
local macro_rules | `(tactic| walk_at "m:glob") => `(tactic| first | exact n_heappush _ | exact n_heappop _)
local macro_rules | `(tactic| walk_at "m:step") => `(tactic| first
  | ((with_reducible refine gd7 ?_); refine wpAny_Expr ?_)
  | ((with_reducible refine gd8 ?_); refine Attribute_any_ ?_)
  | ((with_reducible refine gd9 ?_); (refine w_getPq (by assumption) (by walk_at "m:mem") (by walk_at "m:mem") ?_); intro _ _)
  | ((with_reducible refine gd10 ?_); refine Assign_Tuple ?_)
  | ((with_reducible refine gd11 ?_); refine plainObj_wpAny_Assign_Attribute ?_))
local macro_rules | `(tactic| walk_at "m:step") => `(tactic| first
  | ((with_reducible refine gd12 ?_); refine wpAny_isTrue_value ?_)
  | ((with_reducible refine gd13 ?_); refine wpAny_isTrue_value ?_))
local macro_rules | `(tactic| walk_at "m:kp") => `(tactic| first | exact kp_K (by assumption) (by k_is) | exact St.kpMade (by assumption) (by walk_at "m:mem") | exact St.kpLam (by assumption) (by walk_at "m:mem"))
local macro_rules | `(tactic| walk_at "m:wl") => `(tactic| first
  | refine w_methodWL (by assumption) (by walk_at "m:mem") (by walk_at "m:mem") (wl_find_iter _) (wl_fn_iter _) (wl_get_iter _) (by intro t; rfl) ?_
  | refine w_methodWL (by assumption) (by walk_at "m:mem") (by walk_at "m:mem") (wl_find_add _) (wl_fn_add _) (wl_get_add _) (by intro t; rfl) ?_
  | refine w_methodWL (by assumption) (by walk_at "m:mem") (by walk_at "m:mem") (wl_find_get _) (wl_fn_get _) (wl_get_get _) (by intro t; rfl) ?_)
local macro_rules | `(tactic| walk_at "m:step") => `(tactic| first
  | ((with_reducible refine gd14 ?_); refine MethodCall_ ?_)
  | ((with_reducible refine gd15 ?_); refine w_callW ?_)
  | ((with_reducible refine gd16 ?_); walk_at "m:wl"))
local macro_rules | `(tactic| walk_at "m:step") => `(tactic| first
  | ((with_reducible refine gd17 ?_); refine w_Try ?_)
  | ((with_reducible refine gd18 ?_); refine w_getMethodGet (by assumption) (by walk_at "m:mem") ?_)
  | ((with_reducible refine gd18 ?_); refine w_getMethodAppend (by assumption) (by walk_at "m:mem") ?_)
  | ((with_reducible refine gd19 ?_); refine w_isNone ?_)
  | ((with_reducible refine gd20 ?_); refine wpAny_Assign_Subscript ?_)
  | ((with_reducible refine gd21 ?_); simp only [List.cons_append, List.nil_append])
  | ((with_reducible refine gd22 ?_); simp only [List.cons_append, List.nil_append]))
local macro_rules | `(tactic| walk_at "m:step") => `(tactic| first
  | ((with_reducible refine gd23 ?_); refine stop_of ?_)
  | ((with_reducible refine gd24 ?_); refine wpAny_pure ?_)
  | ((with_reducible refine gd25 ?_); refine w_part ?_)
  | ((with_reducible refine gd26 ?_); refine wpAny_Call_Name_kw ?_)
  | ((with_reducible refine gd27 ?_); refine w_callKw rfl ?_)
  | ((with_reducible refine gd28 ?_); refine kwAll_cons ?_)
  | ((with_reducible refine gd29 ?_); refine kwAll_nil ?_))

section
theorem Cbs.mono {X : Cx} {D : Dag} {P : LPar} {l l' : List Ent} {fU fC : Addr} (K : Cbs X D P l fU fC) (h : l ⊆ l') : Cbs X D P l' fU fC where
  kpU := fun hl S => K.kpU (fun e he => hl (h he)) S
  kpC := fun hl S => K.kpC (fun e he => hl (h he)) S
  up := fun hl S => K.up (fun e he => hl (h he)) S
  clock := fun hl S => K.clock (fun e he => hl (h he)) S
end

section
theorem primeFmb : (fun (_ : OpenLaw) (_ : Params → Frag) => True) PySem.Challenge.rw_ft5005_01 hd.heap_39 := by k_fill; trivial
section
variable {X : Cx} {g : Array GenState} {s : Shared} {l l' : List Ent} {A : Around} {E : Value → Shared → Prop} {env : Env}
theorem c_fmb {D : Dag} {P : LPar} {ps : Array Value} {Lc : Addr} {bc : List (Str × Value)} {fU fC ac a1 a2 : Addr} {k1 k2 n : Nat} {stF : LSt} {Q : Value → Shared → Prop}
    (S : St X g s ((Lc, NsHas bc) :: (87, Is (tabObj ps)) :: l)) (R : Rm A 70) (hb : AllBare g) (T : TabOk l ps lcPq)
    (hc : (ac, ListIs [.ref a1, .ref a2]) ∈ l) (h1 : (a1, RowIs (D.row k1)) ∈ l) (hk1 : k1 < D.N) (h2 : (a2, RowIs (D.row k2)) ∈ l) (hk2 : k2 < D.N) (KC : Cbs X D P l fU fC) (DO : DOk D P) (hskip : ∀ k, k < D.N → P.skip k = decide (D.st k < 0))
    (hrun : k1 ≠ k2 → lRun P n (lInit P k1 [k2]) = some stF ∧ stF.cs.length < 64)
    (h : ∀ p lvs ks ps' new s' g', AllBare g' → St X g' s' ((Lc, NsHas bc) :: (87, Is (tabObj ps')) :: (p, ListIs lvs) :: (new ++ l)) → TabOk (new ++ l) ps' lcPq → All2 (RowV D (new ++ l)) lvs ks →
      (k1 = k2 → ks = [k1]) → (k1 ≠ k2 → ks.Perm (lRes stF) ∧ ks.Pairwise (fun i j => D.st i ≤ D.st j)) → Q (.ref p) s') :
    wpAny X.M A (call (.ref 97) [.ref fU, .ref fC, .none, .ref ac] []) Q E s := by
  refine' w_def (binds := [(Str.ofString "lookup_parents", .ref fU), (Str.ofString "lookup_stamp", .ref fC), (Str.ofString "shallows", .none), (Str.ofString "commit_ids", .ref ac)]) S R ?ho ?hcd ?hbind ?h ?hloc ?hcell ?hco ?hgen ?hk
  case ho => k_is
  case hcd => k_is
  case hbind => exact BindsTo.of_eq rfl
  case hloc => rfl
  case hcell => decide
  case hco => rfl
  case hgen => rfl
  case hk => rfl
  intro L s1 S1
  replace S1 : St X g s1 ((L, NsHas [(Str.ofString "commit_ids", .ref ac), (Str.ofString "shallows", .none), (Str.ofString "lookup_stamp", .ref fC), (Str.ofString "lookup_parents", .ref fU)]) :: (Lc, NsHas bc) :: (87, Is (tabObj ps)) :: l) := S1
  clear S
  repeat' walk_at "m:step"
  refine w_truthyList S1 (up3 hc) (by simp) fun s2 S2 => ?_
  clear S1
  repeat' walk_at "m:step"
  rw [if_neg (by simp)]
  repeat' walk_at "m:step"
  rename St _ _ _ _ => S3
  refine w_itemList S3 (up3 hc) (by decide) (by decide) (v := .ref a1) rfl ?_
  repeat' walk_at "m:step"
  rename St _ _ _ _ => S4
  clear S3 S2
  refine w_lenList S4 (up3 hc) (by simp) fun s5 t5 S5 => ?_
  clear S4
  repeat' walk_at "m:step"
  rw [if_neg (by simp)]
  repeat' walk_at "m:step"
  unfold Stop
  refine w_cutList ?_
  repeat' walk_at "m:step"
  rename St _ _ _ _ => S6
  refine ⟨ac, [.ref a1, .ref a2], some 1, none, _, _, _, rfl, S6, S6.isList (up3 hc), by rw [sizeLine_eq]; simp, .int _ _, .none, fun c1 s7 S7 => ?_⟩
  rw [show kms_pick [Value.ref a1, Value.ref a2] (some 1) none = [.ref a2] from rfl] at S7
  clear S6 S5
  repeat' walk_at "m:step"
  refine w_listList S7 (.tail _ (.head _)) (by simp) fun c2 s8 S8 => ?_
  clear S7
  repeat' walk_at "m:step"
  rename St _ _ _ _ => S9
  have S10 := S9.sub (((List.sublist_cons_self (c1, ListIs [Value.ref a2]) _).cons_cons _).cons_cons _)
  have RA : ∀ {e : Env}, Rm (A.deeper e) 69 := fun {e} => R.deeper e
  clear S9 S8
  have hin : ∀ {x : Nat}, decide (x ∈ [k2]) = decide (x = k2) := by intro x; simp
  refine w_inRows DO.dOk S10 RA.u3 (.tail _ (.head _)) (ks := [k2]) (.cons ⟨a2, rfl, hk2, up4 h2⟩ .nil) hk1 (up4 h1) ?_
  rw [hin]
  repeat' walk_at "m:step"
  by_cases e : k1 = k2
  · rw [decide_eq_true e]
    rw [if_pos rfl]
    repeat' walk_at "m:step"
    refine w_newList S10 (by rw [sizeLine_eq]; simp) fun p s11 S11 => ?_
    dsimp only [retOf]
    refine h p [.ref a1] [k1] ps [] s11 g hb ((S11.perm (permIdx (es := [_, _, _, _, _]) [3, 4, 1, 0, 2] (by kernel_rfl))).sub ?_) T (.cons ⟨a1, rfl, hk1, h1⟩ .nil) (fun _ => rfl) fun ne => absurd e ne
    exact ((((List.sublist_cons_self _ _).trans (List.sublist_cons_self _ _)).cons_cons _).cons_cons _).cons_cons _
  · rw [decide_eq_false e]
    rw [if_neg (by decide)]
    repeat' walk_at "m:step"
    have S11 := S10.perm (l' := _ :: (87, Is (tabObj ps)) :: (c2, ListIs [Value.ref a2]) :: (Lc, NsHas bc) :: l) (permIdx (es := [_, _, _, _]) [0, 3, 1, 2] (by kernel_rfl))
    clear S10
    obtain ⟨hr1, hr2⟩ := hrun e
    refine c_lcas (k2s := [k2]) S11 (RA.le (by omega)) hb (T.mono fun _ _ hx => up2 hx) (fun h => bind90a S11 _ _ _ _ _ h) (up2 h1) hk1 (.head _) (.cons ⟨a2, rfl, hk2, up2 h2⟩ .nil) (by simp) (KC.mono up2) DO hskip hr1 hr2 NoTup.ns fun p lvs ks ps' new s' g' hb' S' T' hv hp ho => ?_
    clear S11
    repeat' walk_at "m:step"
    rename St _ _ _ _ => S12
    dsimp only [retOf]
    have S13 := ((S12.sub (List.sublist_cons_self _ _)).perm (l' := (87, Is (tabObj ps')) :: (p, ListIs lvs) :: (Lc, NsHas bc) :: ((new ++ [(c2, ListIs [Value.ref a2])]) ++ l)) ((moveF.cons _).cons _)).perm (l' := (Lc, NsHas bc) :: (87, Is (tabObj ps')) :: (p, ListIs lvs) :: ((new ++ [(c2, ListIs [Value.ref a2])]) ++ l)) (permIdx (es := [_, _, _]) [2, 0, 1] (by kernel_rfl))
    exact h p lvs ks ps' _ _ g' hb' S13 (T'.dropNs moveF.subset) (hv.mono fun _ _ hx => hx.sees ((Sees.of_sub moveF.subset).trans (Sees.drop NoTup.ns (Sees.refl _)))) (fun e' => absurd e' e) fun _ => ⟨hp, ho⟩
end
end

section
theorem primeCff : (fun (_ : OpenLaw) (_ : Params → Frag) => True) PySem.Challenge.rw_ft5005_01 hd.heap_39 := by k_fill; trivial
section
variable {X : Cx} {g : Array GenState} {s : Shared} {l l' : List Ent} {A : Around} {E : Value → Shared → Prop} {env : Env}
theorem c_cff {D : Dag} {P : LPar} {ps : Array Value} {Lc : Addr} {bc : List (Str × Value)} {fU fC a1 a2 : Addr} {k1 k2 n : Nat} {stF : LSt} {Q : Value → Shared → Prop}
    (S : St X g s ((Lc, NsHas bc) :: (87, Is (tabObj ps)) :: l)) (R : Rm A 70) (hb : AllBare g) (T : TabOk l ps lcPq)
    (h1 : (a1, RowIs (D.row k1)) ∈ l) (hk1 : k1 < D.N) (h2 : (a2, RowIs (D.row k2)) ∈ l) (hk2 : k2 < D.N) (KC : Cbs X D P l fU fC) (DO : DOk D P) (hskip : ∀ k, k < D.N → P.skip k = decide (D.st k < D.st k1))
    (hrun : k1 ≠ k2 → lRun P n (lInit P k1 [k2]) = some stF ∧ stF.cs.length < 64)
    (h : ∀ ps' new s' g', AllBare g' → St X g' s' ((Lc, NsHas bc) :: (87, Is (tabObj ps')) :: (new ++ l)) → TabOk (new ++ l) ps' lcPq → Q (.bool (decide (k1 = k2) || decide (lRes stF = [k1]))) s') :
    wpAny X.M A (call (.ref 104) [.ref fU, .ref fC, .none, .ref a1, .ref a2] []) Q E s := by
  refine' w_def (binds := [(Str.ofString "lookup_parents", .ref fU), (Str.ofString "lookup_stamp", .ref fC), (Str.ofString "shallows", .none), (Str.ofString "c1", .ref a1), (Str.ofString "c2", .ref a2)]) S R ?ho ?hcd ?hbind ?h ?hloc ?hcell ?hco ?hgen ?hk
  case ho => k_is
  case hcd => k_is
  case hbind => exact BindsTo.of_eq rfl
  case hloc => rfl
  case hcell => decide
  case hco => rfl
  case hgen => rfl
  case hk => rfl
  intro L s1 S1
  replace S1 : St X g s1 ((L, NsHas [(Str.ofString "c2", .ref a2), (Str.ofString "c1", .ref a1), (Str.ofString "shallows", .none), (Str.ofString "lookup_stamp", .ref fC), (Str.ofString "lookup_parents", .ref fU)]) :: (Lc, NsHas bc) :: (87, Is (tabObj ps)) :: l) := S1
  clear S
  have RA : ∀ {e : Env}, Rm (A.deeper e) 69 := fun {e} => R.deeper e
  repeat' walk_at "m:step"
  refine w_eqK DO.dOk S1 (RA.le (k := 69) (j := 30) (by omega)).u64 (up3 h1) (up3 h2) hk1 hk2 ?_
  repeat' walk_at "m:step"
  by_cases e : k1 = k2
  · rw [decide_eq_true e, if_pos rfl]
    repeat' walk_at "m:step"
    dsimp only [retOf]
    have hh := h ps [] _ g hb (S1.sub (List.sublist_cons_self _ _)) T
    rw [decide_eq_true e] at hh
    exact hh
  · rw [decide_eq_false e, if_neg (by decide)]
    repeat' walk_at "m:step"
    obtain ⟨hr1, hr2⟩ := hrun e
    refine ⟨KC.kpC up3 S1, ?_⟩
    refine KC.clock up2 S1 (RA.le (by omega)) (up2 h1) hk1 fun s2 t2 S2 => ?_
    clear S1
    repeat' walk_at "m:step"
    rename St _ _ _ _ => S3
    refine w_newList S3 (by rw [sizeLine_eq]; simp) fun c2 s4 S4 => ?_
    clear S3 S2
    repeat' walk_at "m:step"
    have S11 := S4.perm (l' := _ :: (87, Is (tabObj ps)) :: (c2, ListIs [Value.ref a2]) :: (Lc, NsHas bc) :: l) (permIdx (es := [_, _, _, _]) [0, 3, 1, 2] (by kernel_rfl))
    clear S4
    refine c_lcas (k2s := [k2]) S11 (RA.le (by omega)) hb (T.mono fun _ _ hx => up2 hx) (fun h => bind90b S11 _ _ _ _ _ _ h) (up2 h1) hk1 (.head _) (.cons ⟨a2, rfl, hk2, up2 h2⟩ .nil) (by simp) (KC.mono up2) DO hskip hr1 hr2 NoTup.ns fun p lvs ks ps' new s' g' hb' S' T' hv hp ho => ?_
    clear S11
    repeat' walk_at "m:step"
    rename St _ _ _ _ => S12
    refine w_newList S12 (by rw [sizeLine_eq]; simp) fun c3 s5 S5 => ?_
    clear S12 S'
    repeat' walk_at "m:step"
    refine w_eqKs (js := [k1]) DO.dOk S5 (RA.le (k := 69) (j := 30) (by omega)).u64 (.tail _ (.tail _ (.tail _ (.head _)))) (.tail _ (.head _)) (hv.mono fun _ _ hx => hx.mono up4) (.cons ⟨a1, rfl, hk1, up4 (List.mem_append_right _ (up2 h1))⟩ .nil) ?_
    repeat' walk_at "m:step"
    dsimp only [retOf]
    have hq : decide (ks = [k1]) = (decide (k1 = k2) || decide (lRes stF = [k1])) := by
      rw [decide_eq_false e, Bool.false_or]
      refine decide_eq_decide.mpr ⟨fun q => ?_, fun q => ?_⟩
      · rw [q] at hp; exact List.perm_singleton.mp hp.symm
      · rw [q] at hp; exact List.perm_singleton.mp hp
    rw [hq]
    have S13 := ((S5.sub (List.sublist_cons_self _ _)).perm (l' := (c3, ListIs [Value.ref a1]) :: (87, Is (tabObj ps')) :: (p, ListIs lvs) :: (Lc, NsHas bc) :: ((new ++ [(c2, ListIs [Value.ref a2])]) ++ l)) (((moveF.cons _).cons _).cons _)).perm
      (l' := (Lc, NsHas bc) :: (87, Is (tabObj ps')) :: (((p, ListIs lvs) :: (c3, ListIs [Value.ref a1]) :: (new ++ [(c2, ListIs [Value.ref a2])])) ++ l)) (permIdx (es := [_, _, _, _]) [3, 1, 2, 0] (by kernel_rfl))
    refine h ps' _ _ g' hb' S13 ?_
    exact (T'.dropNs moveF.subset).mono fun _ _ hx => by
      rcases List.mem_append.mp hx with hx | hx
      · exact List.mem_append_left _ (.tail _ (.tail _ hx))
      · exact List.mem_append_right _ hx
end
end

section
theorem primeEnum : (fun (_ : OpenLaw) (_ : Params → Frag) => True) PySem.Challenge.rw_ft5005_01 hd.heap_39 := by k_fill; trivial
def EnumAt (it : Addr) (i : Nat) (o : Obj) : Prop := ∃ old, o = { cls := .type "enumerate", dict := none, data := .fields #[.none, .bool false, .ref it, rawInt (i : Int), .none, old], slots := #[] }
section
variable {X : Cx} {g : Array GenState} {s : Shared} {l l' : List Ent} {A : Around} {E : Value → Shared → Prop} {env : Env}
theorem St.upd2 {a1 a2 : Addr} {P1 P2 P1' P2' : Obj → Prop} (S : St X g s ((a1, P1) :: (a2, P2) :: l)) {s' : Shared} {o1 o2 : Obj} (hk : ∀ b o, b ≠ a1 → b ≠ a2 → s.heap.get? b = some o → s'.heap.get? b = some o)
    (h1 : s'.heap.get? a1 = some o1) (q1 : P1' o1) (h2 : s'.heap.get? a2 = some o2) (q2 : P2' o2) (ho : s'.os = s.os := by rfl) (hg : s'.gens = s.gens := by rfl) (hdr : s'.drawn = s.drawn := by rfl) : St X g s' ((a1, P1') :: (a2, P2') :: l) := by
  have nd := S.nd
  simp only [List.map_cons, List.nodup_cons, List.mem_cons, not_or] at nd
  have n1 := S.new (a1, P1) (.head _)
  have n2 := S.new (a2, P2) (.tail _ (.head _))
  simp only at n1 n2
  refine ⟨fun b o e => hk b o (fun q => by rw [q, n1] at e; cases e) (fun q => by rw [q, n2] at e; cases e) (S.keep b o e), fun p hp => ?_, fun p hp => ?_, S.nd, ho.trans S.os, hg.trans S.gens, hdr.trans S.dr⟩
  · rcases List.mem_cons.mp hp with rfl | hp
    · exact ⟨o1, h1, q1⟩
    · rcases List.mem_cons.mp hp with rfl | hp
      · exact ⟨o2, h2, q2⟩
      · obtain ⟨o, e1, e2⟩ := S.get p (.tail _ (.tail _ hp))
        exact ⟨o, hk _ _ (fun q => nd.1.2 (List.mem_map.mpr ⟨p, hp, q⟩)) (fun q => nd.2.1 (List.mem_map.mpr ⟨p, hp, q⟩)) e1, e2⟩
  · rcases List.mem_cons.mp hp with rfl | hp
    · exact n1
    · rcases List.mem_cons.mp hp with rfl | hp
      · exact n2
      · exact S.new p (.tail _ (.tail _ hp))
theorem St.add2 {a1 a2 : Addr} {P1 P2 : Obj → Prop} (S : St X g s l) {s' : Shared} {o1 o2 : Obj} (hk : ∀ b o, s.heap.get? b = some o → s'.heap.get? b = some o) (hne : a1 ≠ a2) (f1 : s.heap.objs.size ≤ a1) (f2 : s.heap.objs.size ≤ a2)
    (h1 : s'.heap.get? a1 = some o1) (q1 : P1 o1) (h2 : s'.heap.get? a2 = some o2) (q2 : P2 o2) (ho : s'.os = s.os := by rfl) (hg : s'.gens = s.gens := by rfl) (hdr : s'.drawn = s.drawn := by rfl) : St X g s' ((a1, P1) :: (a2, P2) :: l) := by
  have fresh : ∀ a, s.heap.objs.size ≤ a → X.hT.get? a = none := fun a ha => by
    cases q : X.hT.get? a with
    | none => rfl
    | some o => exact absurd (Heap.lt_size (S.keep _ _ q)) (Nat.not_lt.mpr ha)
  have hl : ∀ p ∈ l, ∀ a, s.heap.objs.size ≤ a → p.1 ≠ a := fun p hp a ha e => absurd (S.lt hp) (Nat.not_lt.mpr (e ▸ ha))
  refine ⟨fun b o e => hk b o (S.keep b o e), fun p hp => ?_, fun p hp => ?_, ?_, ho.trans S.os, hg.trans S.gens, hdr.trans S.dr⟩
  · rcases List.mem_cons.mp hp with rfl | hp
    · exact ⟨o1, h1, q1⟩
    · rcases List.mem_cons.mp hp with rfl | hp
      · exact ⟨o2, h2, q2⟩
      · obtain ⟨o, e1, e2⟩ := S.get p hp
        exact ⟨o, hk _ _ e1, e2⟩
  · rcases List.mem_cons.mp hp with rfl | hp
    · exact fresh _ f1
    · rcases List.mem_cons.mp hp with rfl | hp
      · exact fresh _ f2
      · exact S.new p hp
  · simp only [List.map_cons, List.nodup_cons, List.mem_cons, not_or]
    refine ⟨⟨hne, fun h => ?_⟩, fun h => ?_, S.nd⟩
    · obtain ⟨p, hp, e⟩ := List.mem_map.mp h; exact hl p hp _ f1 e
    · obtain ⟨p, hp, e⟩ := List.mem_map.mp h; exact hl p hp _ f2 e
theorem w_callEnum {a : Addr} {vs : List Value} {Q : Value → Shared → Prop} (S : St X g s l) (hm : (a, ListIs vs) ∈ l) (h : ∀ e it s', St X g s' ((e, EnumAt it 0) :: (it, LIterIs a 0) :: l) → Q (.ref e) s') : wpAny X.M A (call (.type "enumerate") [.ref a]) Q E s := by
  refine call_enumerate_list (S.isList hm) fun h' he hit hsz hk => h _ s.heap.objs.size _ ?_
  obtain ⟨o, ho, hc, hd⟩ := hit
  exact S.add2 (s' := { s with heap := h' }) hk (Nat.succ_ne_self _) (Nat.le_succ _) (Nat.le_refl _) he ⟨.none, rfl⟩ ho ⟨hc, hd⟩
theorem w_iterEnum {e it : Addr} {i : Nat} {Q : Value → Shared → Prop} (S : St X g s ((e, EnumAt it i) :: l)) (h : Q (.ref e) s) : wpAny X.M A (pyIter (.ref e)) Q E s := by
  obtain ⟨o, ho, old, rfl⟩ := S.mem (.head _)
  exact wpAny_pyIter_enum ho h
theorem w_forEnum {e it ax : Addr} {items : List Value} {x y : Str} {px py pp : Pos} {kk : Nat} {body : List Stmt} {R : Result → Shared → Prop} {b₀ : List (Str × Value)} (hh : A.handled = none)
    (J : Nat → List (Str × Value) → List Ent → Array GenState → Prop) (hJ : ∀ i b l g, J i b l g → (ax, ListIs items) ∈ l) (S : St X g s ((e, EnumAt it 0) :: (it, LIterIs ax 0) :: (env.locals, NsHas b₀) :: l)) (h0 : J 0 b₀ l g)
    (turn : ∀ i v t b l g s, i < items.length → items[i]? = some v → J i b l g → St X g s ((env.locals, NsHas ((y, v) :: (x, .int i t) :: b)) :: (e, EnumAt it (i + 1)) :: (it, LIterIs ax (i + 1)) :: l) →
      wpAny X.M A (execs body env) (fun fl s' => match fl with
        | .next | .cont => ∃ b' l' g', J (i + 1) b' l' g' ∧ St X g' s' ((env.locals, NsHas b') :: (e, EnumAt it (i + 1)) :: (it, LIterIs ax (i + 1)) :: l')
        | .brk => R (.ok .next) s'
        | .ret v => R (.ok (.ret v)) s') NoE s)
    (done : ∀ b l g s, J items.length b l g → St X g s ((env.locals, NsHas b) :: (e, EnumAt it items.length) :: l) → R (.ok .next) s)
    (hx : env.kindOf x = some .local := by rfl) (hy : env.kindOf y = some .local := by rfl) (hp : (env.scope.kind == .class || (env.scope.kind == .module && env.locals != env.globals)) = false := by rfl) :
    codeAny X.M A (.forLoop (.Tuple [.Name x px, .Name y py] kk pp) (.ref e) body [] env) R s := by
  refine codeAny_forLoop2 (fun n s' => ∃ i b l g, i ≤ items.length ∧ n = items.length + 1 - i ∧ J i b l g ∧ St X g s' ((e, EnumAt it i) :: (it, LIterIs ax i) :: (env.locals, NsHas b) :: l)) ?_ (items.length + 1) ⟨0, b₀, l, g, Nat.zero_le _, rfl, h0, S⟩
  rintro n s' ⟨i, b, l₁, g₁, hi, rfl, hj, S'⟩
  have hax := hJ _ _ _ _ hj
  obtain ⟨oe, hoe, old, rfl⟩ := S'.get (e, EnumAt it i) (.head _)
  obtain ⟨oi, hoi, hic, hid⟩ := S'.get (it, LIterIs ax i) (.tail _ (.head _))
  have nd := S'.nd
  simp only [List.map_cons, List.nodup_cons, List.mem_cons, not_or] at nd
  by_cases hlt : i < items.length
  · refine wpAny_pyNext_enum_item (x := items[i]) hoe ⟨oi, hoi, hic, hid⟩ (S'.isList (.tail _ (.tail _ (.tail _ hax)))) (by simp [hlt]) nd.1.1 fun h' heo hit' htup hsz hk => ?_
    obtain ⟨oi', hoi', hic', hid'⟩ := hit'
    have S1 : St X g₁ { s' with heap := h', toks := s'.toks + 1 } ((e, Is _) :: (it, LIterIs ax (i + 1)) :: (env.locals, NsHas b) :: l₁) := S'.upd2 (s' := { s' with heap := h', toks := s'.toks + 1 }) hk heo rfl hoi' ⟨hic', hid'⟩
    dsimp only
    refine wpAny_letOwnedTupleGo_enum heo fun h2 he2 hs2 => ?_
    have he : s'.heap.objs.size ≠ e := Nat.ne_of_gt (Heap.lt_size hoe)
    have S2 : St X g₁ { s' with heap := h2, toks := s'.toks + 1 } ((e, EnumAt it (i + 1)) :: (it, LIterIs ax (i + 1)) :: (env.locals, NsHas b) :: l₁) :=
      S1.upd (s' := { s' with heap := h2, toks := s'.toks + 1 }) .here (fun b o hb e => hs2.extBut b o hb e) he2 ⟨_, by push_cast; rfl⟩
    have ht2 : h2.IsTuple s'.heap.objs.size #[.int i s'.toks, items[i]] := ⟨_, hs2.extBut _ _ he htup, rfl, _, rfl⟩
    refine w_unpack2 (s := { s' with heap := h2, toks := s'.toks + 1 }) (S2.perm (permIdx (es := [_, _, _]) [2, 0, 1] (by kernel_rfl))) hh ht2 (fun s₃ S₃ => ?_) hx hy hp
    refine wpAny_mono (turn i _ _ b l₁ g₁ s₃ hlt (by simp [hlt]) hj S₃) (fun fl s₄ h₄ => ?_) fun _ _ e => e.elim
    have fin : (∃ b' l' g', J (i + 1) b' l' g' ∧ St X g' s₄ ((env.locals, NsHas b') :: (e, EnumAt it (i + 1)) :: (it, LIterIs ax (i + 1)) :: l')) → ∃ m, m < items.length + 1 - i ∧ ∃ i b l g, i ≤ items.length ∧ m = items.length + 1 - i ∧ J i b l g ∧ St X g s₄ ((e, EnumAt it i) :: (it, LIterIs ax i) :: (env.locals, NsHas b) :: l) := by
      rintro ⟨b', l', g', hj', S₄⟩
      exact ⟨items.length + 1 - (i + 1), by omega, i + 1, b', l', g', hlt, rfl, hj', S₄.perm (permIdx (es := [_, _, _]) [1, 2, 0] (by kernel_rfl))⟩
    cases fl with
    | next => exact fin h₄
    | cont => exact fin h₄
    | brk => exact h₄
    | ret v => exact h₄
  · have hin : i = items.length := by omega
    subst hin
    refine wpAny_pyNext_enum_end hh hoe ⟨oi, hoi, hic, hid⟩ (S'.isList (.tail _ (.tail _ (.tail _ hax)))) (by simp) fun h' hk => ?_
    dsimp only
    exact done b l₁ g₁ _ hj (St.swap ((S'.swap).drop (s' := { s' with heap := h' }) fun b o hb e => hk b o hb e))
end
end

section
theorem primeInd : (fun (_ : OpenLaw) (_ : Params → Frag) => True) PySem.Challenge.rw_ft5005_01 hd.heap_39 := by k_fill; trivial
theorem n_enumerate' (P : Params) : nsIn (hd.heap_39 P) mainGlobals (Str.ofString "enumerate") = some none := n_enumerate P
def NoCode (P : Obj → Prop) : Prop := ∀ q t, ¬ P { cls := .none, data := .fields #[.none, .str q t] }
theorem NoCode.ne {P : Obj → Prop} (h : NoCode P) {q : Str} : CodeIs q ≠ P := by
  intro e
  have : CodeIs q { cls := .none, data := .fields #[.none, .str q 0] } := ⟨_, 0, rfl, rfl⟩
  rw [e] at this
  exact h _ _ this
theorem NoCode.list {vs : List Value} : NoCode (ListIs vs) := by rintro q t ⟨m, h⟩; simp at h
theorem NoCode.ns {b : List (Str × Value)} : NoCode (NsHas b) := by rintro q t ⟨m, ep, h, _⟩; simp at h
theorem NoCode.liter {a : Addr} {i : Nat} : NoCode (LIterIs a i) := by rintro q t ⟨h, _⟩; simp at h
theorem NoCode.enum {a : Addr} {i : Nat} : NoCode (EnumAt a i) := by rintro q t ⟨_, h⟩; simp at h
theorem TabOk.drop {a : Addr} {P : Obj → Prop} {l : List Ent} {ps : Array Value} {pq : List (Pos × Str)} (hP : NoCode P) (T : TabOk ((a, P) :: l) ps pq) : TabOk l ps pq :=
  T.mono fun c q hm => by
    rcases List.mem_cons.mp hm with e | hm
    · exact absurd (Prod.mk.inj e).2 hP.ne
    · exact hm
theorem TabOk.sub {l l' : List Ent} {ps : Array Value} {pq : List (Pos × Str)} (T : TabOk l ps pq) (h : l ⊆ l') : TabOk l' ps pq := T.mono fun _ _ hm => h hm
def indHit (B : Nat → Nat → Bool) (ks : List Nat) (i j : Nat) : Bool := !(decide (i = j)) && B (ks.getD i 0) (ks.getD j 0)
def indKeep (B : Nat → Nat → Bool) (ks : List Nat) (i : Nat) : Bool := !((List.range ks.length).any (indHit B ks i))
def indUpto (B : Nat → Nat → Bool) (ks : List Nat) (n : Nat) : List Nat := ((List.range n).filter (indKeep B ks)).map fun i => ks.getD i 0
theorem indUpto_succ (B : Nat → Nat → Bool) (ks : List Nat) (n : Nat) : indUpto B ks (n + 1) = if indKeep B ks n then indUpto B ks n ++ [ks.getD n 0] else indUpto B ks n := by
  unfold indUpto
  rw [List.range_succ, List.filter_append, List.map_append]
  cases h : indKeep B ks n <;> simp [h]
theorem indUpto_len (B : Nat → Nat → Bool) (ks : List Nat) (n : Nat) : (indUpto B ks n).length ≤ n := by
  unfold indUpto
  rw [List.length_map]
  exact Nat.le_trans (List.length_filter_le _ _) (by simp)
theorem any_succ {f : Nat → Bool} {j : Nat} : (List.range (j + 1)).any f = ((List.range j).any f || f j) := by
  rw [List.range_succ, List.any_append]; simp
section
variable {X : Cx} {g : Array GenState} {s : Shared} {l l' : List Ent} {A : Around} {E : Value → Shared → Prop} {env : Env}
theorem c_ind {D : Dag} {P : LPar} {ps : Array Value} {Lc : Addr} {bc : List (Str × Value)} {fU fC ac : Addr} {vs : List Value} {ks : List Nat} {B : Nat → Nat → Bool} {Q : Value → Shared → Prop}
    (S : St X g s ((Lc, NsHas bc) :: (87, Is (tabObj ps)) :: l)) (R : Rm A 80) (hb : AllBare g) (T : TabOk l ps lcPq)
    (hc : (ac, ListIs vs) ∈ l) (hv : All2 (RowV D l) vs ks) (hl2 : 2 ≤ ks.length) (hl : ks.length ≤ 100) (KC : Cbs X D P l fU fC) (DO : DOk D P) (hskip : ∀ k, k < D.N → P.skip k = decide (D.st k < 0))
    (hrun : ∀ k1 k2, k1 < D.N → k2 < D.N → ∃ n stF, (k1 = k2 → B k1 k2 = true) ∧ (k1 ≠ k2 → lRun P n (lInit P k1 [k2]) = some stF ∧ stF.cs.length < 64 ∧ B k1 k2 = decide (lRes stF = [k1])))
    (h : ∀ p rvs ps' new s' g', AllBare g' → St X g' s' ((Lc, NsHas bc) :: (87, Is (tabObj ps')) :: (p, ListIs rvs) :: (new ++ l)) → TabOk (new ++ l) ps' lcPq → All2 (RowV D (new ++ l)) rvs (indUpto B ks ks.length) → Q (.ref p) s') :
    wpAny X.M A (call (.ref 111) [.ref fU, .ref fC, .none, .ref ac] []) Q E s := by
  refine' w_def (binds := [(Str.ofString "lookup_parents", .ref fU), (Str.ofString "lookup_stamp", .ref fC), (Str.ofString "shallows", .none), (Str.ofString "commit_ids", .ref ac)]) S R ?ho ?hcd ?hbind ?h ?hloc ?hcell ?hco ?hgen ?hk
  case ho => k_is
  case hcd => k_is
  case hbind => exact BindsTo.of_eq rfl
  case hloc => rfl
  case hcell => decide
  case hco => rfl
  case hgen => rfl
  case hk => rfl
  intro L s1 S1
  replace S1 : St X g s1 ((L, NsHas [(Str.ofString "commit_ids", .ref ac), (Str.ofString "shallows", .none), (Str.ofString "lookup_stamp", .ref fC), (Str.ofString "lookup_parents", .ref fU)]) :: (Lc, NsHas bc) :: (87, Is (tabObj ps)) :: l) := S1
  clear S
  have RA : ∀ {e : Env}, Rm (A.deeper e) 79 := fun {e} => R.deeper e
  have hlen := hv.length
  repeat' walk_at "m:step"
  refine w_truthyList S1 (up3 hc) (by omega) fun s2 S2 => ?_
  clear S1
  repeat' walk_at "m:step"
  have hne : vs.isEmpty = false := by cases vs with
    | nil => simp at hlen; omega
    | cons _ _ => rfl
  rw [hne, if_neg (by decide)]
  repeat' walk_at "m:step"
  rename St _ _ _ _ => S3
  refine w_lenList S3 (up3 hc) (by omega) fun s5 t5 S5 => ?_
  clear S3
  try clear S2
  repeat' walk_at "m:step"
  rw [if_neg (by simp; omega)]
  repeat' walk_at "m:step"
  rename St _ _ _ _ => S6
  refine w_newList S6 (by rw [sizeLine_eq]; simp) fun Rd s7 S7 => ?_
  clear S6
  try clear S5
  repeat' walk_at "m:step"
  rename St _ _ _ _ => S8
  refine w_For2 ?_
  repeat' walk_at "m:step"
  have S9 : St X g _ ((L, NsHas [(Str.ofString "independent_commits", .ref Rd), (Str.ofString "commit_ids", .ref ac), (Str.ofString "shallows", .none), (Str.ofString "lookup_stamp", .ref fC), (Str.ofString "lookup_parents", .ref fU)]) :: (87, Is (tabObj ps)) :: (Rd, ListIs []) :: (Lc, NsHas bc) :: l) := S8.perm (permIdx (es := [_, _, _, _]) [0, 3, 1, 2] (by kernel_rfl))
  clear S8
  try clear S7
  generalize hb0 : [(Str.ofString "independent_commits", Value.ref Rd), (Str.ofString "commit_ids", .ref ac), (Str.ofString "shallows", .none), (Str.ofString "lookup_stamp", .ref fC), (Str.ofString "lookup_parents", .ref fU)] = b0 at *
  refine w_callEnum S9 (up4 hc) fun e it s10 S10 => ?_
  refine w_iterEnum S10 ?_
  clear S9
  refine w_forEnum (items := vs) (ax := ac) RA.hh (fun i b l' g' => b = b0 ∧ AllBare g' ∧ ∃ ps' new rvs, l' = (87, Is (tabObj ps')) :: (Rd, ListIs rvs) :: (new ++ (Lc, NsHas bc) :: l) ∧ TabOk (new ++ (Lc, NsHas bc) :: l) ps' lcPq ∧ All2 (RowV D l) rvs (indUpto B ks i)) ?_ (S10.perm (permIdx (es := [_, _, _]) [0, 1, 2] (by kernel_rfl)))
    ⟨rfl, hb, ps, [], [], rfl, T.sub (fun e he => .tail _ he), .nil⟩ ?_ ?_
  · rintro i b l' g' ⟨rfl, _, ps', new, rvs, rfl, _⟩
    exact .tail _ (.tail _ (List.mem_append_right _ (.tail _ hc)))
  · rintro i v ti b l' g1 s11 hi hvi ⟨rfl, hb1', ps1, new, rvs, rfl, T1, hrv⟩ S11
    obtain ⟨k1, hk1i, a1, rfl, hk1, ha1⟩ := hv.get hvi
    have hk1' : ks.getD i 0 = k1 := by rw [List.getD_eq_getElem?_getD, hk1i]; rfl
    generalize hbase : (Lc, NsHas bc) :: l = base at *
    have hbs : l ⊆ base := hbase ▸ fun e he => .tail _ he
    subst hb0
    repeat' walk_at "m:step"
    rename St _ _ _ _ => S12
    clear S11
    refine wpAny_mono (Q := fun f s' => f = .next ∧ ∃ ps2 new2 g2, AllBare g2 ∧ TabOk (new2 ++ base) ps2 lcPq ∧ St X g2 s' ((L, NsHas [(Str.ofString "is_independent", .bool (indKeep B ks i)), (Str.ofString "commit_id", .ref a1), (Str.ofString "independent_commits", Value.ref Rd), (Str.ofString "commit_ids", .ref ac), (Str.ofString "shallows", .none), (Str.ofString "lookup_stamp", .ref fC), (Str.ofString "lookup_parents", .ref fU)]) ::
      (e, EnumAt it (i + 1)) :: (it, LIterIs ac (i + 1)) :: (87, Is (tabObj ps2)) :: (Rd, ListIs rvs) :: (new2 ++ base))) ?_ ?_ fun _ _ e => e
    · refine w_For2 ?_
      have hb0v : ∀ {e : Ent}, e ∈ base → e ∈ base := fun h => h
      have acM : (ac, ListIs vs) ∈ base := hbs hc
      repeat' walk_at "m:step"
      refine w_callEnum S12 (up5 (List.mem_append_right _ acM)) fun e2 it2 s14 S14 => ?_
      refine w_iterEnum S14 ?_
      clear S12
      generalize hb1 : [(Str.ofString "independent_commits", Value.ref Rd), (Str.ofString "commit_ids", .ref ac), (Str.ofString "shallows", .none), (Str.ofString "lookup_stamp", .ref fC), (Str.ofString "lookup_parents", .ref fU)] = b1 at *
      generalize hb2 : [(Str.ofString "is_independent", Value.bool true), (Str.ofString "commit_id", .ref a1), (Str.ofString "i", .int (i : Nat) ti)] ++ b1 = b2
      have S15 : St X g1 s14 ((e2, EnumAt it2 0) :: (it2, LIterIs ac 0) :: (L, NsHas b2) :: (e, EnumAt it (i + 1)) :: (it, LIterIs ac (i + 1)) :: (87, Is (tabObj ps1)) :: (Rd, ListIs rvs) :: (new ++ base)) := hb2 ▸ S14
      clear S14
      refine w_forEnum (items := vs) (ax := ac) RA.hh (fun j b l' g' => b = b2 ∧ AllBare g' ∧ ∃ ps' new, l' = (e, EnumAt it (i + 1)) :: (it, LIterIs ac (i + 1)) :: (87, Is (tabObj ps')) :: (Rd, ListIs rvs) :: (new ++ base) ∧ TabOk (new ++ base) ps' lcPq ∧ (List.range j).any (indHit B ks i) = false) ?_ S15
        ⟨rfl, hb1', ps1, new, rfl, T1, rfl⟩ ?_ ?_
      · rintro j b l' g' ⟨rfl, _, ps', new, rfl, _⟩
        exact up4 (List.mem_append_right _ acM)
      · rintro j v2 tj b l' g2 s16 hj hvj ⟨rfl, hb3, ps2, new2, rfl, T2, hany⟩ S16
        obtain ⟨k2, hk2j, a2, rfl, hk2, ha2⟩ := hv.get hvj
        have hk2' : ks.getD j 0 = k2 := by rw [List.getD_eq_getElem?_getD, hk2j]; rfl
        clear S15
        subst hb2 hb1
        repeat' walk_at "m:step"
        have fin2 : ∀ {bb : List (Str × Value)} {s17 : Shared} {ps3 : Array Value} {new3 : List Ent} {g3 : Array GenState}, AllBare g3 → TabOk (new3 ++ base) ps3 lcPq → St X g3 s17 ((L, NsHas bb) :: (e2, EnumAt it2 (j + 1)) :: (it2, LIterIs ac (j + 1)) :: (e, EnumAt it (i + 1)) :: (it, LIterIs ac (i + 1)) :: (87, Is (tabObj ps3)) :: (Rd, ListIs rvs) :: (new3 ++ base)) →
            (∀ p ∈ ([(Str.ofString "is_independent", Value.bool true), (Str.ofString "commit_id", .ref a1), (Str.ofString "i", .int (i : Nat) ti)] ++ [(Str.ofString "independent_commits", Value.ref Rd), (Str.ofString "commit_ids", .ref ac), (Str.ofString "shallows", .none), (Str.ofString "lookup_stamp", .ref fC), (Str.ofString "lookup_parents", .ref fU)]), bb.lookup p.1 = some p.2) → indHit B ks i j = false →
            ∃ b' l' g', (b' = ([(Str.ofString "is_independent", Value.bool true), (Str.ofString "commit_id", .ref a1), (Str.ofString "i", .int (i : Nat) ti)] ++ [(Str.ofString "independent_commits", Value.ref Rd), (Str.ofString "commit_ids", .ref ac), (Str.ofString "shallows", .none), (Str.ofString "lookup_stamp", .ref fC), (Str.ofString "lookup_parents", .ref fU)]) ∧ AllBare g' ∧
              ∃ ps' new, l' = (e, EnumAt it (i + 1)) :: (it, LIterIs ac (i + 1)) :: (87, Is (tabObj ps')) :: (Rd, ListIs rvs) :: (new ++ base) ∧ TabOk (new ++ base) ps' lcPq ∧ (List.range (j + 1)).any (indHit B ks i) = false) ∧ St X g' s17 ((L, NsHas b') :: (e2, EnumAt it2 (j + 1)) :: (it2, LIterIs ac (j + 1)) :: l') := by
          intro bb s17 ps3 new3 g3 hb5 T5 S17 hbb hh
          exact ⟨_, _, g3, ⟨rfl, hb5, ps3, new3, rfl, T5, by rw [any_succ, hany, hh]; rfl⟩, S17.wk .here (NsHas.wk hbb)⟩
        by_cases hij : i = j
        · rw [if_pos (by simp [hij])]
          repeat' walk_at "m:step"
          refine fin2 hb3 T2 S16 ?_ (by unfold indHit; simp [hij])
          intro p hp
          simp only [List.cons_append, List.nil_append, List.mem_cons, List.not_mem_nil, or_false] at hp
          rcases hp with rfl | rfl | rfl | rfl | rfl | rfl | rfl | rfl <;> rfl
        · rw [if_neg (by intro e; exact hij (by have := eq_of_beq e; exact_mod_cast this))]
          repeat' walk_at "m:step"
          refine w_newList S16 (by rw [sizeLine_eq]; simp) fun cl s17 S17 => ?_
          clear S16
          repeat' walk_at "m:step"
          have S18 := S17.perm (l' := _ :: (87, Is (tabObj ps2)) :: (cl, ListIs [Value.ref a1, Value.ref a2]) :: (e2, EnumAt it2 (j + 1)) :: (it2, LIterIs ac (j + 1)) :: (e, EnumAt it (i + 1)) :: (it, LIterIs ac (i + 1)) :: (Rd, ListIs rvs) :: (new2 ++ base)) (permIdx (es := [_, _, _, _, _, _, _, _]) [0, 6, 1, 2, 3, 4, 5, 7] (by kernel_rfl))
          clear S17
          obtain ⟨n, stF, hB1, hB2⟩ := hrun k1 k2 hk1 hk2
          have lsub : l ⊆ (cl, ListIs [Value.ref a1, Value.ref a2]) :: (e2, EnumAt it2 (j + 1)) :: (it2, LIterIs ac (j + 1)) :: (e, EnumAt it (i + 1)) :: (it, LIterIs ac (i + 1)) :: (Rd, ListIs rvs) :: (new2 ++ base) := fun x hx => up5 (.tail _ (List.mem_append_right _ (hbs hx)))
          refine c_fmb S18 (RA.le (by omega)) hb3 (T2.sub fun x hx => up5 (.tail _ hx)) (.head _) (lsub ha1) hk1 (lsub ha2) hk2 (KC.mono lsub) DO hskip (fun ne => ⟨(hB2 ne).1, (hB2 ne).2.1⟩) fun p lvs kk ps3 new3 s19 g3 hb4 S19 T3 hv3 q1 q2 => ?_
          clear S18
          repeat' walk_at "m:step"
          rename St _ _ _ _ => S20
          refine w_newList S20 (by rw [sizeLine_eq]; simp) fun c3 s21 S21 => ?_
          clear S20 S19
          repeat' walk_at "m:step"
          refine w_eqKs (js := [k1]) DO.dOk S21 (RA.le (k := 79) (j := 30) (by omega)).u64 (.tail _ (.tail _ (.tail _ (.head _)))) (.tail _ (.head _)) (hv3.mono fun _ _ hx => hx.mono up4) (.cons ⟨a1, rfl, hk1, up4 (List.mem_append_right _ (lsub ha1))⟩ .nil) ?_
          have hq : decide (kk = [k1]) = B k1 k2 := by
            by_cases ek : k1 = k2
            · rw [hB1 ek, q1 ek]; simp
            · rw [(hB2 ek).2.2]
              have hp := (q2 ek).1
              refine decide_eq_decide.mpr ⟨fun q => ?_, fun q => ?_⟩
              · rw [q] at hp; exact List.perm_singleton.mp hp.symm
              · rw [q] at hp; exact List.perm_singleton.mp hp
          rw [hq]
          have hhit : indHit B ks i j = B k1 k2 := by unfold indHit; rw [hk1', hk2', decide_eq_false hij]; rfl
          have pm : ∀ {z : Ent}, (z :: (c3, ListIs [Value.ref a1]) :: (87, Is (tabObj ps3)) :: (p, ListIs lvs) :: (new3 ++ ((cl, ListIs [Value.ref a1, Value.ref a2]) :: (e2, EnumAt it2 (j + 1)) :: (it2, LIterIs ac (j + 1)) :: (e, EnumAt it (i + 1)) :: (it, LIterIs ac (i + 1)) :: (Rd, ListIs rvs) :: (new2 ++ base)))).Perm
              (z :: (e2, EnumAt it2 (j + 1)) :: (it2, LIterIs ac (j + 1)) :: (e, EnumAt it (i + 1)) :: (it, LIterIs ac (i + 1)) :: (87, Is (tabObj ps3)) :: (Rd, ListIs rvs) :: (((c3, ListIs [Value.ref a1]) :: (p, ListIs lvs) :: (cl, ListIs [Value.ref a1, Value.ref a2]) :: (new3 ++ new2)) ++ base)) := by
            intro z
            have h1 := (((permNew (new := new3) (es := [(cl, ListIs [Value.ref a1, Value.ref a2]), (e2, EnumAt it2 (j + 1)), (it2, LIterIs ac (j + 1)), (e, EnumAt it (i + 1)), (it, LIterIs ac (i + 1)), (Rd, ListIs rvs)]) (l := new2 ++ base)).cons (p, ListIs lvs)).cons (87, Is (tabObj ps3))).cons (c3, ListIs [Value.ref a1]) |>.cons z
            refine h1.trans ?_
            simp only [List.cons_append, List.nil_append, List.append_assoc]
            exact permIdx (es := [_, _, _, _, _, _, _, _, _, _]) [0, 5, 6, 7, 8, 2, 9, 1, 3, 4] (by kernel_rfl)
          have T4 : TabOk (((c3, ListIs [Value.ref a1]) :: (p, ListIs lvs) :: (cl, ListIs [Value.ref a1, Value.ref a2]) :: (new3 ++ new2)) ++ base) ps3 lcPq := by
            have h1 := T3.sub (permNew (new := new3) (es := [(cl, ListIs [Value.ref a1, Value.ref a2]), (e2, EnumAt it2 (j + 1)), (it2, LIterIs ac (j + 1)), (e, EnumAt it (i + 1)), (it, LIterIs ac (i + 1)), (Rd, ListIs rvs)]) (l := new2 ++ base)).subset
            have h2 := (((((h1.drop NoCode.list).drop NoCode.enum).drop NoCode.liter).drop NoCode.enum).drop NoCode.liter).drop NoCode.list
            refine h2.sub ?_
            rw [← List.append_assoc]
            exact fun x hx => up3 hx
          repeat' walk_at "m:step"
          cases hBv : B k1 k2 with
          | true =>
            rw [if_pos rfl]
            repeat' walk_at "m:step"
            rename St _ _ _ _ => S22
            refine ⟨rfl, ps3, _, g3, hb4, T4, ((S22.perm pm).sub (((List.sublist_cons_self _ _).trans (List.sublist_cons_self _ _)).cons_cons _)).wk .here (NsHas.wk ?_)⟩
            have : indKeep B ks i = false := by
              unfold indKeep
              rw [show (List.range ks.length).any (indHit B ks i) = true from List.any_eq_true.mpr ⟨j, List.mem_range.mpr (by omega), by rw [hhit, hBv]⟩]
              rfl
            rw [this]
            intro p hp
            simp only [List.mem_cons, List.not_mem_nil, or_false] at hp
            rcases hp with rfl | rfl | rfl | rfl | rfl | rfl | rfl <;> rfl
          | false =>
            rw [if_neg (by decide)]
            repeat' walk_at "m:step"
            refine fin2 hb4 T4 (S21.perm pm) ?_ (by rw [hhit, hBv])
            intro p hp
            simp only [List.cons_append, List.nil_append, List.mem_cons, List.not_mem_nil, or_false] at hp
            rcases hp with rfl | rfl | rfl | rfl | rfl | rfl | rfl | rfl <;> rfl
      · rintro b l' g2 s16 ⟨rfl, hb3, ps2, new2, rfl, T2, hany⟩ S16
        dsimp only
        subst hb2 hb1
        refine ⟨rfl, ps2, new2, g2, hb3, T2, ((S16.sub ((List.sublist_cons_self _ _).cons_cons _)).wk .here (NsHas.wk ?_))⟩
        have : indKeep B ks i = true := by unfold indKeep; rw [← hlen, hany]; rfl
        rw [this]
        intro p hp
        simp only [List.mem_cons, List.not_mem_nil, or_false] at hp
        rcases hp with rfl | rfl | rfl | rfl | rfl | rfl | rfl <;> rfl
    · rintro f s13 ⟨rfl, ps2, new2, g2, hb2, T2, S13⟩
      repeat' walk_at "m:step"
      have fin : ∀ {bb : List (Str × Value)} {rvs' : List Value} {s14 : Shared}, St X g2 s14 ((L, NsHas bb) :: (e, EnumAt it (i + 1)) :: (it, LIterIs ac (i + 1)) :: (87, Is (tabObj ps2)) :: (Rd, ListIs rvs') :: (new2 ++ base)) →
          (∀ p ∈ [(Str.ofString "independent_commits", Value.ref Rd), (Str.ofString "commit_ids", .ref ac), (Str.ofString "shallows", .none), (Str.ofString "lookup_stamp", .ref fC), (Str.ofString "lookup_parents", .ref fU)], bb.lookup p.1 = some p.2) → All2 (RowV D l) rvs' (indUpto B ks (i + 1)) →
          ∃ b' l' g', (b' = [(Str.ofString "independent_commits", Value.ref Rd), (Str.ofString "commit_ids", .ref ac), (Str.ofString "shallows", .none), (Str.ofString "lookup_stamp", .ref fC), (Str.ofString "lookup_parents", .ref fU)] ∧ AllBare g' ∧ ∃ ps' new rvs, l' = (87, Is (tabObj ps')) :: (Rd, ListIs rvs) :: (new ++ base) ∧ TabOk (new ++ base) ps' lcPq ∧ All2 (RowV D l) rvs (indUpto B ks (i + 1))) ∧
            St X g' s14 ((L, NsHas b') :: (e, EnumAt it (i + 1)) :: (it, LIterIs ac (i + 1)) :: l') := by
        intro bb rvs' s14 S14 hbb hr
        exact ⟨_, _, g2, ⟨rfl, hb2, ps2, new2, rvs', rfl, T2, hr⟩, S14.wk .here (NsHas.wk hbb)⟩
      have hwk : ∀ p ∈ [(Str.ofString "independent_commits", Value.ref Rd), (Str.ofString "commit_ids", .ref ac), (Str.ofString "shallows", .none), (Str.ofString "lookup_stamp", .ref fC), (Str.ofString "lookup_parents", .ref fU)], [(Str.ofString "is_independent", .bool (indKeep B ks i)), (Str.ofString "commit_id", .ref a1), (Str.ofString "independent_commits", Value.ref Rd), (Str.ofString "commit_ids", .ref ac), (Str.ofString "shallows", .none), (Str.ofString "lookup_stamp", .ref fC), (Str.ofString "lookup_parents", .ref fU)].lookup p.1 = some p.2 := by
        intro p hp
        simp only [List.mem_cons, List.not_mem_nil, or_false] at hp
        rcases hp with rfl | rfl | rfl | rfl | rfl <;> rfl
      cases hkeep : indKeep B ks i with
      | false =>
        rw [if_neg (by decide)]
        repeat' walk_at "m:step"
        rw [hkeep] at hwk S13
        exact fin S13 hwk (by rw [indUpto_succ, hkeep]; exact hrv)
      | true =>
        rw [if_pos rfl]
        repeat' walk_at "m:step"
        have := indUpto_len B ks i
        refine w_append S13 (.there (.there (.there (.there .here)))) (by rw [hrv.length, sizeLine_eq]; omega) fun s14 S14 => ?_
        dsimp only
        repeat' walk_at "m:step"
        rw [hkeep] at hwk S14
        exact fin S14 hwk (by rw [indUpto_succ, hkeep, if_pos rfl, hk1']; exact hrv.append (.cons ⟨a1, rfl, hk1, ha1⟩ .nil))
  · rintro b l' g1 s11 ⟨rfl, hb1, ps1, new, rvs, rfl, T1, hrv⟩ S11
    rw [hlen] at hrv
    subst hb0
    dsimp only
    repeat' walk_at "m:step"
    dsimp only [retOf]
    have S12 := (S11.sub ((List.sublist_cons_self _ _).trans (List.sublist_cons_self _ _))).perm (l' := (Lc, NsHas bc) :: (87, Is (tabObj ps1)) :: (Rd, ListIs rvs) :: (new ++ l)) (((moveF0.cons _).cons _).trans (permIdx (es := [_, _, _]) [2, 0, 1] (by kernel_rfl)))
    exact h Rd rvs ps1 new _ g1 hb1 S12 (T1.dropNs moveF0.subset) (hrv.mono fun _ _ hx => hx.mono fun e he => List.mem_append_right _ he)
end
end

section
theorem primeBel : (fun (_ : OpenLaw) (_ : Params → Frag) => True) PySem.Challenge.rw_ft5005_01 hd.heap_39 := by k_fill; trivial
def ins (x : Int) : List Int → List Int
  | [] => [x]
  | y :: r => if x ≤ y then x :: y :: r else y :: ins x r
def isort : List Int → List Int
  | [] => []
  | x :: r => ins x (isort r)
theorem ins_perm (x : Int) : ∀ r : List Int, (ins x r).Perm (x :: r)
  | [] => .refl _
  | y :: r => by
    unfold ins
    split
    · exact .refl _
    · exact ((ins_perm x r).cons y).trans (.swap x y r)
theorem isort_perm : ∀ r : List Int, (isort r).Perm r
  | [] => .refl _
  | x :: r => (ins_perm x _).trans ((isort_perm r).cons x)
theorem ins_sorted (x : Int) : ∀ r : List Int, r.Pairwise (· ≤ ·) → (ins x r).Pairwise (· ≤ ·)
  | [], _ => by simp [ins]
  | y :: r, h => by
    rw [List.pairwise_cons] at h
    unfold ins
    split
    · rename_i hxy
      refine List.pairwise_cons.mpr ⟨fun z hz => ?_, List.pairwise_cons.mpr h⟩
      rcases List.mem_cons.mp hz with rfl | hz
      · exact hxy
      · have := h.1 z hz; omega
    · rename_i hxy
      refine List.pairwise_cons.mpr ⟨fun z hz => ?_, ins_sorted x r h.2⟩
      rcases List.mem_cons.mp ((ins_perm x r).mem_iff.mp hz) with rfl | hz
      · omega
      · exact h.1 z hz
theorem isort_sorted : ∀ r : List Int, (isort r).Pairwise (· ≤ ·)
  | [] => .nil
  | x :: r => ins_sorted x _ (isort_sorted r)
theorem isort_unique {r q : List Int} (hp : q.Perm r) (ho : q.Pairwise (· ≤ ·)) : q = isort r :=
  (hp.trans (isort_perm r).symm).eq_of_pairwise (le := (· ≤ ·)) (fun a b _ _ h1 h2 => Int.le_antisymm h1 h2) ho (isort_sorted r)
theorem isort_length (r : List Int) : (isort r).length = r.length := (isort_perm r).length_eq
def belAt (r q : List Int) (k : Nat) : Bool := (List.range k).all fun i => !decide ((isort (q.take k)).getD i 0 < (isort (r.take k)).getD i 0)
def belowF (r q : List Int) : Bool := (List.range r.length).all fun k => belAt r q k
theorem intsAre_snoc {vs : List Value} {ns : List Int} (h : IntsAre vs ns) (n : Int) (t : Tok) : IntsAre (vs ++ [.int n t]) (ns ++ [n]) := h.append (.cons n t .nil)
theorem intsAre_at {vs : List Value} {ns : List Int} (h : IntsAre vs ns) {i : Nat} (hi : i < ns.length) : ∃ t, vs[i]? = some (.int (ns.getD i 0) t) :=
  h.get i _ (by rw [List.getD_eq_getElem?_getD, List.getElem?_eq_getElem hi]; rfl)
section
variable {X : Cx} {g : Array GenState} {s : Shared} {l l' : List Ent} {A : Around} {E : Value → Shared → Prop} {env : Env}
def filt (f : Nat → Bool) (i : Nat) : List Int := ((List.range i).filter f).map fun (j : Nat) => (j : Int)
theorem filt_succ (f : Nat → Bool) (i : Nat) : filt f (i + 1) = if f i = true then filt f i ++ [(i : Int)] else filt f i := by
  unfold filt
  rw [List.range_succ, List.filter_append, List.map_append]
  cases h : f i <;> simp [h]
theorem filt_nil (f : Nat → Bool) (k : Nat) : decide (filt f k = []) = (List.range k).all fun i => !f i := by
  unfold filt
  rw [Bool.eq_iff_iff, decide_eq_true_eq, List.map_eq_nil_iff, List.filter_eq_nil_iff, List.all_eq_true]
  exact ⟨fun h j hj => by simpa using h j hj, fun h j hj => by simpa using h j hj⟩
theorem filt_len (f : Nat → Bool) (i : Nat) : (filt f i).length ≤ i := by
  unfold filt
  rw [List.length_map]
  exact Nat.le_trans (List.length_filter_le _ _) (by simp)
abbrev badAt (r q : List Int) (k : Nat) : Nat → List Int := filt fun j => decide ((isort (q.take k)).getD j 0 < (isort (r.take k)).getD j 0)
theorem drop4 {a b c d : Ent} {m : List Ent} : m.Sublist (a :: b :: c :: d :: m) := ((((List.sublist_cons_self _ _).trans (List.sublist_cons_self _ _)).trans (List.sublist_cons_self _ _)).trans (List.sublist_cons_self _ _))
theorem drop5 {a b c d e : Ent} {m : List Ent} : m.Sublist (a :: b :: c :: d :: e :: m) := drop4.trans (List.sublist_cons_self _ _)
theorem w_unpackC {p : Addr} {u v : Value} {x y : Str} {px py pos : Pos} {k : Nat} {c1 c2 : Addr} {v1 v2 : Option Value} {l1 l2 : List Ent} {Q : Unit → Shared → Prop} (S : St X g s l) (hh : A.handled = none) (ht : s.heap.IsTuple p #[u, v])
    (hc1 : env.cells.lookup x = some c1) (U1 : UpdE c1 (CellHas v1) (CellHas (some u)) l l1) (hc2 : env.cells.lookup y = some c2) (U2 : UpdE c2 (CellHas v2) (CellHas (some v)) l1 l2)
    (h : ∀ s', St X g s' l2 → Q () s') (hk : env.scope.kind = .function := by rfl) (hx : env.kindOf x = some .cell := by rfl) (hy : env.kindOf y = some .cell := by rfl) :
    wpAny X.M A (assign (.Tuple [.Name x px, .Name y py] k pos) env (.ref p)) Q E s := by
  refine wpAny_assign_Tuple hh ht rfl rfl fun h' he => ?_
  have S1 : St X g { s with heap := h' } l := S.all (s' := { s with heap := h' }) fun c o e => he c o (Nat.ne_of_lt (Heap.lt_size e)) e
  show wpAny _ _ (do holding [v] (assign (.Name x px) env u); holding [] (assign (.Name y py) env v); pure ()) _ _ _
  refine wpAny_bind (wpAny_holding (wpAny_assign_Name (w_storeCell S1 hc1 U1 (fun s2 S2 => ?_) hk hx)))
  refine wpAny_bind (wpAny_holding (wpAny_assign_Name (w_storeCell S2 hc2 U2 (fun s3 S3 => ?_) hk hy)))
  exact wpAny_pure (h _ S3)
theorem cut_take {r : List Int} {k : Nat} (h : k ≤ r.length) : cutOf r none (some (k : Int)) = r.take k := by
  unfold cutOf cutLo cutHi
  simp [Nat.min_eq_left h]
theorem c_below {a1 a2 : Addr} {r q : List Int} {Q : Value → Shared → Prop} (S : St X g s l) (R : Rm A 40) (h1 : (a1, RowIs r) ∈ l) (h2 : (a2, RowIs q) ∈ l) (hz : r.length < 60) (hlen : q.length = r.length)
    (h : ∀ s', St X g s' l → Q (.bool (belowF r q)) s') : wpAny X.M A (call (.ref 136) [.ref a1, .ref a2] []) Q E s := by
  refine' w_defC (binds := [(Str.ofString "one", .ref a1), (Str.ofString "two", .ref a2)]) (cs := fun n => [(Str.ofString "second", n + 1), (Str.ofString "first", n)]) S R ?ho ?hcd ?hbind ?hcs ?hnd ?h ?hkind ?hsome ?hco ?hgen ?hk
  case ho => k_is
  case hcd => k_is
  case hbind => exact BindsTo.of_eq rfl
  case hcs => intro n; rfl
  case hnd => decide
  case hkind => rfl
  case hsome => exact some_of_names (cs := fun n => [(Str.ofString "second", n + 1), (Str.ofString "first", n)]) fun n => rfl
  case hco => rfl
  case hgen => rfl
  case hk => rfl
  intro L s1 S1
  replace S1 : St X g s1 ((L, NsHas [(Str.ofString "two", .ref a2), (Str.ofString "one", .ref a1)]) :: (L + 1 + 1, CellHas none) :: (L + 1, CellHas none) :: l) := S1
  clear S
  have RA : ∀ {e : Env}, Rm (A.deeper e) 39 := fun {e} => R.deeper e
  repeat' walk_at "m:step"
  refine w_For ?_
  repeat' walk_at "m:step"
  rename St _ _ _ _ => S2
  refine w_lenRow S2 (up3 h1) (by omega) fun s3 t3 S3 => ?_
  clear S1
  repeat' walk_at "m:step"
  rename St _ _ _ _ => S4
  refine w_iterRange1 (n := r.length - 1) S4 (by omega) (by omega) (by omega) (by omega) (by omega) fun I s5 S5 => ?_
  clear S4 S3
  refine w_forLoop (It.range (A := _) RA.hh I 1 1 (r.length - 1)) (fun i b l' => b = [(Str.ofString "two", .ref a2), (Str.ofString "one", .ref a1)] ∧ (∃ v1 v2, l' = (L + 1 + 1, CellHas v2) :: (L + 1, CellHas v1) :: l) ∧ (List.range (i + 1)).all (belAt r q) = true) (fun _ _ _ _ _ hp => nomatch hp) S5 ⟨rfl, ⟨none, none, rfl⟩, rfl⟩ ?_ ?_
  · rintro i v b l' s6 hi ⟨t, rfl⟩ ⟨rfl, ⟨v1, v2, rfl⟩, hall⟩ S6
    rw [show (1 : Int) + (i : Nat) * 1 = ((i + 1 : Nat) : Int) by push_cast; omega] at S6
    repeat' walk_at "m:step"
    unfold Stop
    refine w_cutRow ?_
    repeat' walk_at "m:step"
    refine ⟨a1, r, none, some ((i + 1 : Nat) : Int), _, _, _, rfl, S6, up4 h1, by rw [sizeLine_eq]; omega, .none, .int _ _, (by intro x e; cases e), (by intro x e; cases e; omega), fun c1 s7 new1 S7 hm1 => ?_⟩
    rw [cut_take (by omega)] at hm1
    clear S6
    repeat' walk_at "m:step"
    refine w_sortedRow S7 hm1 (by rw [List.length_take]; omega) fun D1 s8 ws1 ns1 S8 hi1 hp1 ho1 => ?_
    obtain rfl := isort_unique hp1 ho1
    replace S8 := S8.sub (((List.sublist_append_right new1 _).cons_cons (D1, ListIs ws1)).cons_cons _)
    repeat' walk_at "m:step"
    unfold Stop
    refine w_cutRow ?_
    repeat' walk_at "m:step"
    refine ⟨a2, q, none, some ((i + 1 : Nat) : Int), _, _, _, rfl, S8, up5 h2, by rw [sizeLine_eq]; omega, .none, .int _ _, (by intro x e; cases e), (by intro x e; cases e; omega), fun c2 s9 new2 S9 hm2 => ?_⟩
    rw [cut_take (by omega)] at hm2
    clear S8 S7
    repeat' walk_at "m:step"
    refine w_sortedRow S9 hm2 (by rw [List.length_take]; omega) fun D2 s10 ws2 ns2 S10 hi2 hp2 ho2 => ?_
    obtain rfl := isort_unique hp2 ho2
    replace S10 := S10.sub (((List.sublist_append_right new2 _).cons_cons (D2, ListIs ws2)).cons_cons _)
    clear S9
    repeat' walk_at "m:step"
    refine w_newTuple S10 (by rw [sizeLine_eq]; simp) fun p s11 S11 => ?_
    clear S10
    repeat' walk_at "m:step"
    refine w_unpackC S11 RA.hh (S11.isTuple (.tail _ (.head _))) rfl (.there (.there (.there (.there (.there (.there .here)))))) rfl (.there (.there (.there (.there (.there .here))))) fun s12 S12 => ?_
    clear S11
    repeat' walk_at "m:step"
    refine w_ListComp (cl := [(Str.ofString "second", L + 1 + 1), (Str.ofString "first", L + 1)]) (by rfl) ?_
    repeat' walk_at "m:step"
    rename St _ _ _ _ => S13
    refine w_iterRange1 (n := i + 1) S13 (by omega) (by omega) (by omega) (by omega) (by omega) fun I2 s14 S14 => ?_
    clear S13 S12
    refine w_compGo (It.range (A := _) RA.hh I2 0 1 (i + 1)) S14 fun C D s15 S15 => ?_
    clear S14
    refine w_compLoop (It.range (A := _) RA.hh I2 0 1 (i + 1)) (fun j ys l' => l' = _ ∧ IntsAre ys (badAt r q (i + 1) j) ∧ j ≤ i + 1) ?_ S15 ⟨rfl, .nil, Nat.zero_le _⟩ ?_ ?_ rfl rfl
    · rintro j ys l' ⟨rfl, hys, hj⟩
      refine ⟨fun _ hp => (nomatch hp), ?_⟩
      rw [hys.length, sizeLine_eq]
      exact Nat.le_trans (filt_len _ _) (by omega)
    · rintro j v ys l' s16 hj ⟨t2, rfl⟩ ⟨rfl, hys, _⟩ S16
      simp only [Int.zero_add, Int.mul_one] at S16 ⊢
      clear S15
      refine wpAny_tests_one ?_
      have hl1 : j < (isort (r.take (i + 1))).length := by rw [isort_length, List.length_take]; omega
      have hl2 : j < (isort (q.take (i + 1))).length := by rw [isort_length, List.length_take]; omega
      obtain ⟨t3, ht3⟩ := intsAre_at hi1 hl1
      obtain ⟨t4, ht4⟩ := intsAre_at hi2 hl2
      repeat' walk_at "m:step"
      refine w_itemList S16 (by walk_at "m:mem") (by omega) (by omega) (v := .int ((isort (r.take (i + 1))).getD j 0) t3) (by simpa using ht3) ?_
      repeat' walk_at "m:step"
      refine w_itemList S16 (by walk_at "m:mem") (by omega) (by omega) (v := .int ((isort (q.take (i + 1))).getD j 0) t4) (by simpa using ht4) ?_
      repeat' walk_at "m:step"
      split
      · rename_i hlt
        repeat' walk_at "m:step"
        refine ⟨_, ⟨rfl, ?_, by omega⟩, S16.wk .here (NsHas.wk fun p hp => (nomatch hp))⟩
        show IntsAre _ (filt _ (j + 1))
        rw [filt_succ, if_pos hlt]
        exact intsAre_snoc hys _ _
      · rename_i hlt
        refine ⟨_, ⟨rfl, ?_, by omega⟩, S16.wk .here (NsHas.wk fun p hp => (nomatch hp))⟩
        show IntsAre _ (filt _ (j + 1))
        rw [filt_succ, if_neg hlt]
        exact hys
    · rintro ys l' s16 ⟨rfl, hys, _⟩ S16
      refine compPost_none S16 fun s17 S17 => ?_
      clear S16 S15
      repeat' walk_at "m:step"
      refine w_newList S17.swap (by rw [sizeLine_eq]; simp) fun D3 s18 S18 => ?_
      clear S17
      repeat' walk_at "m:step"
      refine w_neInts S18 (RA.le (k := 39) (j := 30) (by omega)).u64 (by walk_at "m:mem") (by walk_at "m:mem") hys .nil ?_
      rw [show (decide (badAt r q (i + 1) (i + 1) = [])) = belAt r q (i + 1) from filt_nil _ _]
      repeat' walk_at "m:step"
      cases hbel : belAt r q (i + 1) with
      | true =>
        rw [if_neg (by decide)]
        repeat' walk_at "m:step"
        refine ⟨_, _, ⟨rfl, ⟨_, _, rfl⟩, by rw [List.range_succ, List.all_append, hall]; simp [hbel]⟩, (S18.sub (drop5.cons_cons _)).wk .here (NsHas.wk ?_)⟩
        intro p hp
        simp only [List.mem_cons, List.not_mem_nil, or_false] at hp
        rcases hp with rfl | rfl <;> rfl
      | false =>
        rw [if_pos (by decide)]
        repeat' walk_at "m:step"
        dsimp only [retOf]
        have : belowF r q = false := by
          unfold belowF
          rw [List.all_eq_false]
          exact ⟨i + 1, List.mem_range.mpr (by omega), by simp [hbel]⟩
        rw [this] at h
        exact h _ (S18.sub (drop4.trans drop5))
  · rintro b l' s6 ⟨rfl, ⟨v1, v2, rfl⟩, hall⟩ S6
    dsimp only
    repeat' walk_at "m:step"
    dsimp only [retOf]
    have : belowF r q = true := by
      unfold belowF
      rcases Nat.eq_zero_or_pos r.length with e | e
      · rw [e]; rfl
      · rw [show r.length = r.length - 1 + 1 by omega]; exact hall
    rw [this] at h
    exact h _ (S6.sub (((List.sublist_cons_self _ _).trans (List.sublist_cons_self _ _)).trans (List.sublist_cons_self _ _)))
end
end

section
theorem primeOrd : (fun (_ : OpenLaw) (_ : Params → Frag) => True) PySem.Challenge.rw_ft5005_01 hd.heap_39 := by k_fill; trivial
def extI (n : Nat) (r : List Int) (m : Nat) : List (List Int) := ((List.range m).filter fun (v : Nat) => decide ((v : Int) ∉ r)).map fun (v : Nat) => r ++ [(v : Int)]
def ordF (n : Nat) : Nat → List (List Int)
  | 0 => [[]]
  | k + 1 => (ordF n k).flatMap fun r => extI n r n
theorem extI_succ (n : Nat) (r : List Int) (m : Nat) : extI n r (m + 1) = if (m : Int) ∉ r then extI n r m ++ [r ++ [(m : Int)]] else extI n r m := by
  unfold extI
  rw [List.range_succ, List.filter_append, List.map_append]
  by_cases h : (m : Int) ∈ r <;> simp [h]
theorem extI_len (n : Nat) (r : List Int) (m : Nat) : (extI n r m).length ≤ m := by
  unfold extI
  rw [List.length_map]
  exact Nat.le_trans (List.length_filter_le _ _) (by simp)
theorem flatMap_take {α β : Type} (f : α → List β) {l : List α} {i : Nat} {a : α} (h : l[i]? = some a) : (l.take (i + 1)).flatMap f = (l.take i).flatMap f ++ f a := by
  rw [List.take_add_one, h, List.flatMap_append]; simp
theorem flatMap_len {α β : Type} (f : α → List β) (n : Nat) (hf : ∀ a, (f a).length ≤ n) : ∀ l : List α, (l.flatMap f).length ≤ l.length * n
  | [] => by simp
  | a :: l => by
    have := flatMap_len f n hf l
    have := hf a
    rw [List.flatMap_cons, List.length_append, List.length_cons, Nat.add_mul]; omega
section
variable {X : Cx} {g : Array GenState} {s : Shared} {l l' : List Ent} {A : Around} {E : Value → Shared → Prop} {env : Env}
theorem row_tl {c L : Addr} {r : List Int} {b : List (Str × Value)} {m : List Ent} (h : (c, RowIs r) ∈ (L, NsHas b) :: m) : (c, RowIs r) ∈ m := by
  rcases List.mem_cons.mp h with e | h
  · exact absurd (Prod.mk.inj e).2 (RowIs.ne NoTup.ns)
  · exact h
theorem row_dropE {c b : Addr} {r : List Int} {P : Obj → Prop} {m : List Ent} (hP : NoTup P) (h : (c, RowIs r) ∈ (b, P) :: m) : (c, RowIs r) ∈ m := by
  rcases List.mem_cons.mp h with e | h
  · exact absurd (Prod.mk.inj e).2 (RowIs.ne hP)
  · exact h
theorem NoTup.riter {a b c : Int} : NoTup (RIterIs a b c) := by rintro vs n h; simp [RIterIs] at h
theorem row_out {c : Addr} {r : List Int} {m m2 es : List Ent} (h : (c, RowIs r) ∈ m) (hes : ∀ p ∈ es, NoTup p.2) (hsub : ∀ e, e ∈ m → e ∈ es ∨ e ∈ m2) : (c, RowIs r) ∈ m2 := by
  rcases hsub _ h with h | h
  · obtain hP := hes _ h
    exfalso
    obtain ⟨vs, hv⟩ := IntsAre.exists r
    exact hP vs.toArray 0 ⟨vs, ⟨0, rfl⟩, hv⟩
  · exact h
theorem a_eta {e : Ent} (h : NoTup e.2) : NoTup e.2 := h
theorem any_ints {m : Int} : ∀ {vs : List Value} {r : List Int}, IntsAre vs r → vs.any (fun y => match y with | .int n _ => n == m | _ => false) = decide (m ∈ r)
  | _, _, .nil => by simp
  | _, _, .cons n t h => by
    rw [List.any_cons, any_ints h]
    by_cases e : n = m
    · simp [e]
    · have : ¬ m = n := fun q => e q.symm
      simp [e, this]
theorem w_notInRow {a : Addr} {r : List Int} {m : Int} {t : Tok} {Q : Value → Shared → Prop} (S : St X g s l) (hm : (a, RowIs r) ∈ l) (h : Q (.bool (decide (m ∉ r))) s) : wpAny X.M A (compareOp .NotIn (.int m t) (.ref a)) Q E s := by
  obtain ⟨o, ho, vs, ⟨n, rfl⟩, hi⟩ := S.mem hm
  refine PySem.SeqAt.notIn_tupleAt (fun y => match y with | .int n _ => n == m | _ => false) ⟨_, ho, rfl, n, rfl⟩ (fun y hy => ?_) ?_
  · have key : ∀ {vs : List Value} {r : List Int}, IntsAre vs r → ∀ y ∈ vs, ∃ k u, y = .int k u := by
      intro vs r h
      induction h with
      | nil => intro y hy; cases hy
      | cons n t _ ih =>
        intro y hy
        rcases List.mem_cons.mp hy with rfl | hy
        · exact ⟨n, t, rfl⟩
        · exact ih y hy
    obtain ⟨k, u, rfl⟩ := key hi y (by simpa using hy)
    exact eqIntAt
  · rw [List.any_toArray, any_ints hi]
    have : (!decide (m ∈ r)) = decide (m ∉ r) := by by_cases h : m ∈ r <;> simp [h]
    rw [this]; exact h
theorem c_orders {Lf : Addr} {bf : List (Str × Value)} {n : Nat} {t : Tok} {Q : Value → Shared → Prop} (S : St X g s ((Lf, NsHas bf) :: l)) (R : Rm A 40) (hn : n ≤ 10) (hlen : ∀ k, k ≤ n → (ordF n k).length ≤ 100 ∧ ∀ r ∈ ordF n k, r.length ≤ 10)
    (h : ∀ p vs new s', St X g s' ((Lf, NsHas bf) :: (p, ListIs vs) :: (new ++ l)) → RowsAre (new ++ l) vs (ordF n n) → Q (.ref p) s') : wpAny X.M A (call (.ref 121) [.int (n : Nat) t] []) Q E s := by
  refine' w_defC (binds := [(Str.ofString "n", .int (n : Nat) t)]) (cs := fun n => [(Str.ofString "n", n)]) S R ?ho ?hcd ?hbind ?hcs ?hnd ?h ?hkind ?hsome ?hco ?hgen ?hk
  case ho => k_is
  case hcd => k_is
  case hbind => exact BindsTo.of_eq rfl
  case hcs => intro n; rfl
  case hnd => decide
  case hkind => rfl
  case hsome => exact some_of_names (cs := fun n => [(Str.ofString "n", n)]) fun n => rfl
  case hco => rfl
  case hgen => rfl
  case hk => rfl
  intro L s1 S1
  replace S1 : St X g s1 ((L, NsHas []) :: (L + 1, CellHas (some (.int (n : Nat) t))) :: (Lf, NsHas bf) :: l) := S1
  clear S
  have RA : ∀ {e : Env}, Rm (A.deeper e) 39 := fun {e} => R.deeper e
  repeat' walk_at "m:step"
  refine w_newRow (r := []) S1 .nil (by decide) fun p0 s2 S2 => ?_
  clear S1
  repeat' walk_at "m:step"
  refine w_newList S2 (by rw [sizeLine_eq]; simp) fun Rd s3 S3 => ?_
  clear S2
  repeat' walk_at "m:step"
  refine w_For ?_
  repeat' walk_at "m:step"
  rename St _ _ _ _ => S4
  refine w_iterRange1 (n := n) S4 (by omega) (by omega) (by omega) (by omega) (by omega) fun I s5 S5 => ?_
  clear S4 S3
  have S6 : St X g s5 ((I, RIterIs (0 + ((0 : Nat) : Int) * 1) ((n : Int) - ((0 : Nat) : Int)) 1) :: (L, NsHas [(Str.ofString "rows", Value.ref Rd)]) :: (Rd, ListIs [Value.ref p0]) :: (L + 1, CellHas (some (.int (n : Nat) t))) :: ([(p0, RowIs [])] ++ (Lf, NsHas bf) :: l)) :=
    S5.perm (permIdx (es := [_, _, _, _, _]) [0, 1, 2, 4, 3] (by kernel_rfl))
  clear S5
  refine w_forLoop (It.range (A := _) RA.hh I 0 1 n) (fun k b l' => ∃ Rd rvs new, b = [(Str.ofString "rows", Value.ref Rd)] ∧ l' = (Rd, ListIs rvs) :: (L + 1, CellHas (some (.int (n : Nat) t))) :: (new ++ (Lf, NsHas bf) :: l) ∧ RowsAre (new ++ l) rvs (ordF n k)) (fun _ _ _ _ _ hp => nomatch hp) S6
    ⟨Rd, _, _, rfl, rfl, .cons ⟨p0, rfl, .head _⟩ .nil⟩ ?_ ?_
  · rintro k v b l' s7 hk ⟨tk, rfl⟩ ⟨Rd, rvs, new, rfl, rfl, hrv⟩ S7
    clear S6
    obtain ⟨hb1, hb2'⟩ := hlen k (by omega)
    have hrl := hrv.length
    repeat' walk_at "m:step"
    refine w_Assign_ListComp (cl := [(Str.ofString "n", L + 1)]) (by rfl) (by rfl) ?_
    repeat' walk_at "m:step"
    refine w_iterList (f := (L, NsHas [])) S7 (by walk_at "m:mem") fun I2 s8 S8 => ?_
    obtain ⟨eI, hIk, heI⟩ : ∃ eI, (I, RIterIs (0 + ((k + 1 : Nat) : Int) * 1) ((n : Int) - ((k + 1 : Nat) : Int)) 1) = eI ∧ NoTup eI.2 := ⟨_, rfl, NoTup.riter⟩
    rw [hIk] at S8 ⊢
    refine w_compGo (It.list (A := _) RA.hh I2 Rd rvs) S8 fun C D s9 S9 => ?_
    clear S8 S7
    generalize hb2 : [(Str.ofString "k", Value.int (0 + (k : Nat) * 1) tk), (Str.ofString "rows", Value.ref Rd)] = b2 at S9
    replace S9 : St X g s9 ((C, NsHas []) :: (I2, LIterIs Rd 0) :: (D, ListIs []) :: (L, NsHas b2) :: eI :: (Rd, ListIs rvs) :: (L + 1, CellHas (some (Value.int (n : Nat) t))) :: ([] ++ (new ++ (Lf, NsHas bf) :: l))) := S9
    refine w_compLoop0 (It.list (A := _) RA.hh I2 Rd rvs) (fun i ys l' => ∃ new2, l' = (L, NsHas b2) :: eI :: (Rd, ListIs rvs) :: (L + 1, CellHas (some (Value.int (n : Nat) t))) :: (new2 ++ (new ++ (Lf, NsHas bf) :: l)) ∧ RowsAre (new2 ++ (new ++ l)) ys (((ordF n k).take i).flatMap fun r => extI n r n) ∧ i ≤ rvs.length) ?_ S9 ⟨[], rfl, .nil, Nat.zero_le _⟩ ?_ ?_ rfl rfl
    · rintro i ys l' ⟨new2, rfl, _⟩ p hp
      rcases List.mem_singleton.mp hp with rfl
      exact .tail _ (.tail _ (.head _))
    · rintro i v ys l' s10 hi hv ⟨new2, rfl, hys, _⟩ S10
      clear S9
      obtain ⟨pa, r, rfl, hr, hpa⟩ := hrv.get hv
      have hr10 := hb2' r (List.mem_of_getElem? hr)
      have hysl := hys.length
      have hfl := flatMap_len (fun r => extI n r n) n (fun r => extI_len n r n) ((ordF n k).take i)
      rw [List.length_take] at hfl
      have hfl2 : min i (ordF n k).length * n ≤ 100 * 10 := Nat.mul_le_mul (by omega) hn
      repeat' walk_at "m:step"
      rename St _ _ _ _ => S11
      refine w_iterRange1 (n := n) S11 (by omega) (by omega) (by omega) (by omega) (by omega) fun I3 s12 S12 => ?_
      clear S11 S10
      have S13 : St X g s12 ((C, NsHas [(Str.ofString "row", Value.ref pa)]) :: (I3, RIterIs (0 + ((0 : Nat) : Int) * 1) ((n : Int) - ((0 : Nat) : Int)) 1) :: (D, ListIs ys) :: (I2, LIterIs Rd (i + 1)) :: (L, NsHas b2) :: eI :: (Rd, ListIs rvs) :: (L + 1, CellHas (some (Value.int (n : Nat) t))) :: (new2 ++ (new ++ (Lf, NsHas bf) :: l))) :=
        S12.perm (permIdx (es := [_, _, _, _]) [1, 0, 3, 2] (by kernel_rfl))
      clear S12
      refine w_compLoop1 (It.range (A := _) RA.hh I3 0 1 n) (fun m ys' l' => ∃ new3, l' = (I2, LIterIs Rd (i + 1)) :: (L, NsHas b2) :: eI :: (Rd, ListIs rvs) :: (L + 1, CellHas (some (Value.int (n : Nat) t))) :: (new3 ++ (new ++ (Lf, NsHas bf) :: l)) ∧
          RowsAre (new3 ++ (new ++ l)) ys' ((((ordF n k).take i).flatMap fun r => extI n r n) ++ extI n r m) ∧ m ≤ n) ?_ S13 ⟨new2, rfl, by rw [show extI n r 0 = [] from rfl, List.append_nil]; exact hys, Nat.zero_le _⟩ ?_ ?_ rfl rfl
      · rintro m ys' l' ⟨new3, rfl, hys', hm⟩
        refine ⟨fun _ hp => (nomatch hp), ?_⟩
        have h1 := hys'.length
        have h2 := extI_len n r m
        rw [List.length_append] at h1
        rw [sizeLine_eq]; omega
      · rintro m v ys' l' s14 hm ⟨tm, rfl⟩ ⟨new3, rfl, hys', _⟩ S14
        simp only [Int.zero_add, Int.mul_one] at S14 ⊢
        clear S13
        have hpa' : (pa, RowIs r) ∈ new ++ (Lf, NsHas bf) :: l := by
          rcases List.mem_append.mp hpa with h | h
          · exact List.mem_append_left _ h
          · exact List.mem_append_right _ (.tail _ h)
        refine wpAny_tests_one ?_
        repeat' walk_at "m:step"
        refine w_notInRow S14 (by walk_at "m:mem") ?_
        repeat' walk_at "m:step"
        by_cases hin : (m : Int) ∈ r
        · rw [decide_eq_false (not_not_intro hin), if_neg (by decide)]
          refine ⟨_, ⟨new3, rfl, ?_, by omega⟩, S14.wk .here (NsHas.wk fun p hp => ?_)⟩
          · rw [extI_succ, if_neg (not_not_intro hin)]; exact hys'
          · rw [List.mem_singleton.mp hp]; rfl
        · rw [decide_eq_true hin, if_pos rfl]
          repeat' walk_at "m:step"
          refine w_newRow S14 (.cons (m : Int) tm .nil) (by rw [sizeLine_eq]; simp) fun c2 s15 S15 => ?_
          clear S14
          repeat' walk_at "m:step"
          refine w_addRow S15 (by walk_at "m:mem") (.tail _ (.head _)) (by rw [sizeLine_eq]; simp; omega) fun c3 s16 newA S16 hc3 => ?_
          clear S15
          have pm : ∀ {z : Ent}, (z :: (newA ++ (c2, RowIs [(m : Int)]) :: (I3, RIterIs ((m + 1 : Nat) : Int) ((n : Int) - ((m + 1 : Nat) : Int)) 1) :: (D, ListIs ys') :: (I2, LIterIs Rd (i + 1)) :: (L, NsHas b2) :: eI :: (Rd, ListIs rvs) :: (L + 1, CellHas (some (Value.int (n : Nat) t))) :: (new3 ++ (new ++ (Lf, NsHas bf) :: l)))).Perm
              (z :: (I3, RIterIs ((m + 1 : Nat) : Int) ((n : Int) - ((m + 1 : Nat) : Int)) 1) :: (D, ListIs ys') :: (I2, LIterIs Rd (i + 1)) :: (L, NsHas b2) :: eI :: (Rd, ListIs rvs) :: (L + 1, CellHas (some (Value.int (n : Nat) t))) :: (((newA ++ [(c2, RowIs [(m : Int)])]) ++ new3) ++ (new ++ (Lf, NsHas bf) :: l))) := by
            intro z
            have := (permNew (new := newA ++ [(c2, RowIs [(m : Int)])]) (es := [(I3, RIterIs ((m + 1 : Nat) : Int) ((n : Int) - ((m + 1 : Nat) : Int)) 1), (D, ListIs ys'), (I2, LIterIs Rd (i + 1)), (L, NsHas b2), eI, (Rd, ListIs rvs), (L + 1, CellHas (some (Value.int (n : Nat) t)))]) (l := new3 ++ (new ++ (Lf, NsHas bf) :: l))).cons z
            simpa using this
          have hc3' : (c3, RowIs (r ++ [(m : Int)])) ∈ ((newA ++ [(c2, RowIs [(m : Int)])]) ++ new3) ++ (new ++ l) := by
            have h1 : (c3, RowIs (r ++ [(m : Int)])) ∈ ((newA ++ [(c2, RowIs [(m : Int)])]) ++ new3) ++ (new ++ (Lf, NsHas bf) :: l) :=
              row_dropE NoTup.cell (row_dropE NoTup.list (row_dropE (b := eI.1) (P := eI.2) heI (row_dropE NoTup.ns (row_dropE NoTup.liter (row_dropE NoTup.list (row_dropE NoTup.riter (row_dropE NoTup.ns (pm.subset hc3))))))))
            rcases List.mem_append.mp h1 with h1 | h1
            · exact List.mem_append_left _ h1
            · rcases List.mem_append.mp h1 with h1 | h1
              · exact List.mem_append_right _ (List.mem_append_left _ h1)
              · exact List.mem_append_right _ (List.mem_append_right _ (row_dropE NoTup.ns h1))
          refine ⟨_, ⟨(newA ++ [(c2, RowIs [(m : Int)])]) ++ new3, rfl, ?_, by omega⟩, (S16.perm pm).wk .here (NsHas.wk fun p hp => ?_)⟩
          · rw [extI_succ, if_pos hin]
            have h2 := RowsAre.append (l := ((newA ++ [(c2, RowIs [(m : Int)])]) ++ new3) ++ (new ++ l)) (hys'.mono fun a r h => by rw [List.append_assoc]; exact List.mem_append_right _ h) (.cons ⟨c3, rfl, hc3'⟩ .nil)
            rw [List.append_assoc (List.flatMap (fun r => extI n r n) (List.take i (ordF n k)))] at h2
            exact h2
          · rw [List.mem_singleton.mp hp]; rfl
      · rintro ys' l' s14 ⟨new3, rfl, hys', _⟩ S14
        refine ⟨ys', _, ⟨new3, rfl, by rw [flatMap_take _ hr]; exact hys', by omega⟩, ?_⟩
        exact (S14.wk .here (NsHas.wk (b' := []) fun p hp => (nomatch hp))).perm (permIdx (es := [_, _, _]) [0, 2, 1] (by kernel_rfl))
    · rintro ys l' s10 ⟨new2, rfl, hys, _⟩ S10
      refine compPost_use (S10.perm (permIdx (es := [_, _, _]) [0, 2, 1] (by kernel_rfl))) (fun s11 S11 => ?_)
      repeat' walk_at "m:step"
      rw [hrl, List.take_length] at hys
      replace S11 : St X g s11 ((L, NsHas ((Str.ofString "rows", .ref D) :: b2)) :: (D, ListIs ys) :: eI :: (Rd, ListIs rvs) :: (L + 1, CellHas (some (Value.int (n : Nat) t))) :: (new2 ++ (new ++ (Lf, NsHas bf) :: l))) := S11
      refine ⟨_, _, ⟨D, ys, new2 ++ new, rfl, rfl, ?_⟩, ?_⟩
      · rw [List.append_assoc]; exact hys
      · have S12 := ((S11.sub ((((List.sublist_cons_self _ _).cons_cons _).cons_cons _).cons_cons _)).perm (permIdx (es := [_, _, _]) [0, 2, 1] (by kernel_rfl))).wk (P' := NsHas [(Str.ofString "rows", .ref D)]) .here (NsHas.wk fun p hp => by rw [List.mem_singleton.mp hp]; rfl)
        rw [List.append_assoc]
        exact S12
  · rintro b l' s7 ⟨Rd, rvs, new, rfl, rfl, hrv⟩ S7
    dsimp only
    repeat' walk_at "m:step"
    dsimp only [retOf]
    have S8 := S7.sub (List.sublist_cons_self _ _)
    refine h Rd rvs new _ ((S8.sub ((List.sublist_cons_self _ _).cons_cons _)).perm ((moveF0.cons _).trans (.swap _ _ _))) hrv
end
end

section
theorem primePar : (fun (_ : OpenLaw) (_ : Params → Frag) => True) PySem.Challenge.rw_ft5005_01 hd.heap_39 := by k_fill; trivial
local macro_rules | `(tactic| walk_at "m:step") => `(tactic| first
  | ((with_reducible refine gd30 ?_); refine isTrue_chain ?_)
  | ((with_reducible refine gd31 ?_); refine test_link ?_)
  | ((with_reducible refine gd32 ?_); refine test_last ?_))
def btw (r : List Int) (i j m : Nat) : Bool := decide (r.getD j 0 < r.getD (i + 1 + m) 0) && decide (r.getD (i + 1 + m) 0 < r.getD i 0)
def covers (r : List Int) (j i : Nat) : Bool := decide (r.getD j 0 < r.getD i 0) && ((List.range (j - (i + 1))).all fun m => !btw r i j m)
def swapRow (r : List Int) (j i : Nat) : List Int := cutOf r none (some (i : Int)) ++ [r.getD j 0] ++ cutOf r (some ((i : Int) + 1)) (some (j : Int)) ++ [r.getD i 0] ++ cutOf r (some ((j : Int) + 1)) none
def parI (r : List Int) (j i : Nat) : List (List Int) := ((List.range i).filter (covers r j)).map (swapRow r j)
def parTo (r : List Int) (j : Nat) : List (List Int) := (List.range j).flatMap fun k => parI r k k
def parentsF (r : List Int) : List (List Int) := parTo r r.length
theorem parI_succ (r : List Int) (j i : Nat) : parI r j (i + 1) = if covers r j i = true then parI r j i ++ [swapRow r j i] else parI r j i := by
  unfold parI
  rw [List.range_succ, List.filter_append, List.map_append]
  cases h : covers r j i <;> simp [h]
theorem parTo_succ (r : List Int) (j : Nat) : parTo r (j + 1) = parTo r j ++ parI r j j := by
  unfold parTo
  rw [List.range_succ, List.flatMap_append]
  simp
theorem parI_len (r : List Int) (j i : Nat) : (parI r j i).length ≤ i := by
  unfold parI
  rw [List.length_map]
  exact Nat.le_trans (List.length_filter_le _ _) (by simp)
theorem parTo_len (r : List Int) : ∀ j, (parTo r j).length ≤ j * j
  | 0 => by simp [parTo]
  | j + 1 => by
    rw [parTo_succ, List.length_append]
    have h1 := parTo_len r j
    have h2 := parI_len r j j
    have : (j + 1) * (j + 1) = j * j + j + j + 1 := by rw [Nat.add_mul, Nat.mul_add]; omega
    omega
theorem cutOf_len {α : Type} (r : List α) (lo hi : Option Int) : (cutOf r lo hi).length ≤ r.length := by
  unfold cutOf
  rw [List.length_take, List.length_drop]
  omega
section
variable {X : Cx} {g : Array GenState} {s : Shared} {l l' : List Ent} {A : Around} {E : Value → Shared → Prop} {env : Env}
theorem row_tail {c L : Addr} {r : List Int} {b : List (Str × Value)} {m : List Ent} (h : (c, RowIs r) ∈ (L, NsHas b) :: m) : (c, RowIs r) ∈ m := by
  rcases List.mem_cons.mp h with e | h
  · exact absurd (Prod.mk.inj e).2 (RowIs.ne NoTup.ns)
  · exact h
/-- a for over an iterator, its target a cell -/
theorem w_forLoopC {I : Addr} {n : Nat} {V : Nat → Value → Prop} {Sti : Nat → Obj → Prop} {need : List Ent} (T : It X A I n V Sti need) {x : Str} {px : Pos} {c : Addr} {w₀ : Option Value} {body : List Stmt} {R : Result → Shared → Prop} {b₀ : List (Str × Value)}
    (J : Nat → List (Str × Value) → List Ent → Prop) (hJ : ∀ i b l, J i b l → ∀ p ∈ need, p ∈ l) (S : St X g s ((I, Sti 0) :: (env.locals, NsHas b₀) :: (c, CellHas w₀) :: l)) (h0 : J 0 b₀ l)
    (turn : ∀ i v b l s, i < n → V i v → J i b l → St X g s ((env.locals, NsHas b) :: (c, CellHas (some v)) :: (I, Sti (i + 1)) :: l) →
      wpAny X.M A (execs body env) (fun f s' => match f with
        | .next | .cont => ∃ b' l' w, J (i + 1) b' l' ∧ St X g s' ((env.locals, NsHas b') :: (c, CellHas w) :: (I, Sti (i + 1)) :: l')
        | .brk => R (.ok .next) s'
        | .ret v => R (.ok (.ret v)) s') NoE s)
    (done : ∀ b l s w, J n b l → St X g s ((env.locals, NsHas b) :: (c, CellHas w) :: l) → R (.ok .next) s)
    (hc : env.cells.lookup x = some c) (hk : env.scope.kind = .function := by rfl) (hx : env.kindOf x = some .cell := by rfl) :
    codeAny X.M A (.forLoop (.Name x px) (.ref I) body [] env) R s := by
  refine codeAny_forLoop (fun k s' => ∃ i b l w, i ≤ n ∧ k = n + 1 - i ∧ J i b l ∧ St X g s' ((I, Sti i) :: (env.locals, NsHas b) :: (c, CellHas w) :: l)) ?_ (n + 1) ⟨0, b₀, l, w₀, Nat.zero_le _, rfl, h0, S⟩
  rintro k s' ⟨i, b, l₁, w, hi, rfl, hj, S'⟩
  have hneed : ∀ p ∈ need, p ∈ (env.locals, NsHas b) :: (c, CellHas w) :: l₁ := fun p hp => .tail _ (.tail _ (hJ _ _ _ hj p hp))
  by_cases hlt : i < n
  · refine T.item hlt S' hneed fun v s₂ hv S₂ => ?_
    refine wpAny_assign_Name (w_storeCell S₂ hc (.there (.there .here)) (fun s₃ S₃ => ?_) hk hx)
    refine wpAny_mono (turn i v b l₁ s₃ hlt hv hj (S₃.perm (permIdx (es := [_, _, _]) [1, 2, 0] (by kernel_rfl)))) (fun f s₄ h₄ => ?_) fun _ _ e => e.elim
    have fin : (∃ b' l' w, J (i + 1) b' l' ∧ St X g s₄ ((env.locals, NsHas b') :: (c, CellHas w) :: (I, Sti (i + 1)) :: l')) → ∃ m, m < n + 1 - i ∧ ∃ i b l w, i ≤ n ∧ m = n + 1 - i ∧ J i b l ∧ St X g s₄ ((I, Sti i) :: (env.locals, NsHas b) :: (c, CellHas w) :: l) := by
      rintro ⟨b', l', w', hj', S₄⟩
      exact ⟨n + 1 - (i + 1), by omega, i + 1, b', l', w', hlt, rfl, hj', S₄.perm (permIdx (es := [_, _, _]) [2, 0, 1] (by kernel_rfl))⟩
    cases f with
    | next => exact fin h₄
    | cont => exact fin h₄
    | brk => exact h₄
    | ret v => exact h₄
  · have hin : i = n := by omega
    subst hin
    exact T.done S' hneed fun s₂ S₂ => wpAny_execs_nil (done b l₁ s₂ w hj S₂)
theorem c_parents {Lf : Addr} {bf : List (Str × Value)} {a : Addr} {r : List Int} {Q : Value → Shared → Prop} (S : St X g s ((Lf, NsHas bf) :: l)) (R : Rm A 36) (hm : (a, RowIs r) ∈ l) (hz : r.length < 20)
    (h : ∀ p vs new s', St X g s' ((Lf, NsHas bf) :: (p, ListIs vs) :: (new ++ l)) → RowsAre (new ++ l) vs (parentsF r) → Q (.ref p) s') : wpAny X.M A (call (.ref 131) [.ref a] []) Q E s := by
  refine' w_defC (binds := [(Str.ofString "row", .ref a)]) (cs := fun n => [(Str.ofString "i", n + 1 + 1), (Str.ofString "j", n + 1), (Str.ofString "row", n)]) S R ?ho ?hcd ?hbind ?hcs ?hnd ?h ?hkind ?hsome ?hco ?hgen ?hk
  case ho => k_is
  case hcd => k_is
  case hbind => exact BindsTo.of_eq rfl
  case hcs => intro n; rfl
  case hnd => decide
  case hkind => rfl
  case hsome => exact some_of_names (cs := fun n => [(Str.ofString "i", n + 1 + 1), (Str.ofString "j", n + 1), (Str.ofString "row", n)]) fun n => rfl
  case hco => rfl
  case hgen => rfl
  case hk => rfl
  intro L s1 S1
  replace S1 : St X g s1 ((L, NsHas []) :: (L + 1 + 1 + 1, CellHas none) :: (L + 1 + 1, CellHas none) :: (L + 1, CellHas (some (.ref a))) :: (Lf, NsHas bf) :: l) := S1
  clear S
  have RA : ∀ {e : Env}, Rm (A.deeper e) 35 := fun {e} => R.deeper e
  repeat' walk_at "m:step"
  refine w_newList S1 (by rw [sizeLine_eq]; simp) fun Fd s2 S2 => ?_
  clear S1
  repeat' walk_at "m:step"
  refine w_For ?_
  repeat' walk_at "m:step"
  rename St _ _ _ _ => S3
  refine w_lenRow S3 (up5 (.tail _ hm)) (by omega) fun s4 t4 S4 => ?_
  clear S3
  try clear S2
  repeat' walk_at "m:step"
  rename St _ _ _ _ => S5
  refine w_iterRange1 (n := r.length) S5 (by omega) (by omega) (by omega) (by omega) (by omega) fun I s6 S6 => ?_
  clear S5 S4
  have S7 : St X g s6 ((I, RIterIs (0 + ((0 : Nat) : Int) * 1) ((r.length : Int) - ((0 : Nat) : Int)) 1) :: (L, NsHas [(Str.ofString "found", Value.ref Fd)]) :: (L + 1 + 1, CellHas none) :: (L + 1 + 1 + 1, CellHas none) :: (L + 1, CellHas (some (.ref a))) :: (Fd, ListIs []) :: (Lf, NsHas bf) :: l) :=
    S6.perm (permIdx (es := [_, _, _, _, _, _]) [0, 1, 4, 3, 5, 2] (by kernel_rfl))
  clear S6
  refine w_forLoopC (c := L + 1 + 1) (It.range (A := _) RA.hh I 0 1 r.length) (fun j b l' => b = [(Str.ofString "found", Value.ref Fd)] ∧ ∃ w fvs new, l' = (L + 1 + 1 + 1, CellHas w) :: (L + 1, CellHas (some (.ref a))) :: (Fd, ListIs fvs) :: (new ++ (Lf, NsHas bf) :: l) ∧ RowsAre (new ++ l) fvs (parTo r j)) (fun _ _ _ _ _ hp => nomatch hp) S7
    ⟨rfl, none, [], [], rfl, .nil⟩ ?_ ?_ rfl
  · rintro j v b l' s8 hj ⟨tj, rfl⟩ ⟨rfl, w, fvs, new, rfl, hfv⟩ S8
    simp only [Int.zero_add, Int.mul_one] at S8 ⊢
    clear S7
    repeat' walk_at "m:step"
    refine w_For ?_
    repeat' walk_at "m:step"
    rename St _ _ _ _ => S9
    refine w_iterRange1 (n := j) S9 (by omega) (by omega) (by omega) (by omega) (by omega) fun I2 s10 S10 => ?_
    clear S9 S8
    obtain ⟨eI, hIj, heI⟩ : ∃ eI, (I, RIterIs ((j + 1 : Nat) : Int) ((r.length : Int) - ((j + 1 : Nat) : Int)) 1) = eI ∧ NoTup eI.2 := ⟨_, rfl, NoTup.riter⟩
    rw [hIj] at S10 ⊢
    have S11 : St X g s10 ((I2, RIterIs (0 + ((0 : Nat) : Int) * 1) ((j : Int) - ((0 : Nat) : Int)) 1) :: (L, NsHas [(Str.ofString "found", Value.ref Fd)]) :: (L + 1 + 1 + 1, CellHas w) :: (L + 1 + 1, CellHas (some (.int (j : Nat) tj))) :: eI :: (L + 1, CellHas (some (.ref a))) :: (Fd, ListIs fvs) :: (new ++ (Lf, NsHas bf) :: l)) :=
      S10.perm (permIdx (es := [_, _, _, _, _]) [0, 1, 4, 2, 3] (by kernel_rfl))
    clear S10
    refine w_forLoopC (c := L + 1 + 1 + 1) (It.range (A := _) RA.hh I2 0 1 j) (fun i b l' => b = [(Str.ofString "found", Value.ref Fd)] ∧ ∃ fvs new, l' = (L + 1 + 1, CellHas (some (.int (j : Nat) tj))) :: eI :: (L + 1, CellHas (some (.ref a))) :: (Fd, ListIs fvs) :: (new ++ (Lf, NsHas bf) :: l) ∧ RowsAre (new ++ l) fvs (parTo r j ++ parI r j i) ∧ i ≤ j) (fun _ _ _ _ _ hp => nomatch hp) S11
      ⟨rfl, fvs, new, rfl, by rw [show parI r j 0 = [] from rfl, List.append_nil]; exact hfv, Nat.zero_le _⟩ ?_ ?_ rfl
    · clear hfv S11
      rintro i v b l' s12 hi ⟨ti, rfl⟩ ⟨rfl, fvs, new, rfl, hfv, _⟩ S12
      simp only [Int.zero_add, Int.mul_one] at S12 ⊢
      have hfl := hfv.length
      have hp1 := parTo_len r j
      have hp2 := parI_len r j i
      have hjj : j * j ≤ 20 * 20 := Nat.mul_le_mul (by omega) (by omega)
      rw [List.length_append] at hfl
      repeat' walk_at "m:step"
      refine w_itemRow S12 (by walk_at "m:mem") (by omega) (by omega) (by omega) fun t1 => ?_
      repeat' walk_at "m:step"
      refine w_itemRow S12 (by walk_at "m:mem") (by omega) (by omega) (by omega) fun t2 => ?_
      repeat' walk_at "m:step"
      simp only [Int.toNat_natCast]
      have fin : ∀ {bb : List (Str × Value)} {fvs' : List Value} {new' : List Ent} {w : Option Value} {s13 : Shared}, St X g s13 ((L, NsHas bb) :: (L + 1 + 1 + 1, CellHas w) :: (I2, RIterIs ((i + 1 : Nat) : Int) ((j : Int) - ((i + 1 : Nat) : Int)) 1) :: (L + 1 + 1, CellHas (some (.int (j : Nat) tj))) :: eI :: (L + 1, CellHas (some (.ref a))) :: (Fd, ListIs fvs') :: (new' ++ (Lf, NsHas bf) :: l)) →
          (∀ p ∈ [(Str.ofString "found", Value.ref Fd)], bb.lookup p.1 = some p.2) → RowsAre (new' ++ l) fvs' (parTo r j ++ parI r j (i + 1)) →
          ∃ b' l' w, (b' = [(Str.ofString "found", Value.ref Fd)] ∧ ∃ fvs new, l' = (L + 1 + 1, CellHas (some (.int (j : Nat) tj))) :: eI :: (L + 1, CellHas (some (.ref a))) :: (Fd, ListIs fvs) :: (new ++ (Lf, NsHas bf) :: l) ∧ RowsAre (new ++ l) fvs (parTo r j ++ parI r j (i + 1)) ∧ i + 1 ≤ j) ∧
            St X g s13 ((L, NsHas b') :: (L + 1 + 1 + 1, CellHas w) :: (I2, RIterIs ((i + 1 : Nat) : Int) ((j : Int) - ((i + 1 : Nat) : Int)) 1) :: l') := by
        intro bb fvs' new' w s13 S13 hbb hr
        exact ⟨_, _, w, ⟨rfl, fvs', new', rfl, hr, by omega⟩, S13.wk .here (NsHas.wk hbb)⟩
      have hbb1 : ∀ p ∈ [(Str.ofString "found", Value.ref Fd)], [(Str.ofString "found", Value.ref Fd)].lookup p.1 = some p.2 := fun p hp => by rw [List.mem_singleton.mp hp]; rfl
      by_cases hgt : r.getD j 0 < r.getD i 0
      · rw [if_pos (decide_eq_true hgt)]
        repeat' walk_at "m:step"
        refine w_ListComp (cl := [(Str.ofString "row", L + 1), (Str.ofString "j", L + 1 + 1), (Str.ofString "i", L + 1 + 1 + 1)]) (by rfl) ?_
        repeat' walk_at "m:step"
        rename St _ _ _ _ => S13
        refine w_iterRange1 (n := j - (i + 1)) S13 (by omega) (by omega) (by omega) (by omega) (by omega) fun I3 s14 S14 => ?_
        clear S13 S12
        refine w_compGo (It.range (A := _) RA.hh I3 ((i : Int) + 1) 1 (j - (i + 1))) S14 fun C D s15 S15 => ?_
        clear S14
        refine w_compLoop (It.range (A := _) RA.hh I3 ((i : Int) + 1) 1 (j - (i + 1))) (fun m ys l' => l' = _ ∧ (∃ ns, IntsAre ys ns ∧ decide (ns = []) = (List.range m).all (fun m => !btw r i j m) ∧ ns.length ≤ m) ∧ m ≤ 20) ?_ S15 ⟨rfl, ⟨[], .nil, rfl, Nat.le_refl _⟩, by omega⟩ ?_ ?_ rfl rfl
        · rintro m ys l' ⟨rfl, ⟨ns, hys, _, hnl⟩, hm⟩
          refine ⟨fun _ hp => (nomatch hp), ?_⟩
          have := hys.length
          rw [sizeLine_eq]; omega
        · rintro m v ys l' s16 hm ⟨tm, rfl⟩ ⟨rfl, ⟨ns, hys, hns, hnl⟩, _⟩ S16
          rw [show ((i : Int) + 1 + (m : Nat) * 1) = ((i + 1 + m : Nat) : Int) by push_cast; omega] at S16
          clear S15
          refine wpAny_tests_one ?_
          repeat' walk_at "m:step"
          refine w_itemRow S16 (by walk_at "m:mem") (by omega) (by omega) (by omega) fun t3 => ?_
          repeat' walk_at "m:step"
          refine w_itemRow S16 (by walk_at "m:mem") (by omega) (by omega) (by omega) fun t4 => ?_
          repeat' walk_at "m:step"
          simp only [Int.toNat_natCast]
          have out : btw r i j m = false → decide (ns = []) = (List.range (m + 1)).all (fun m => !btw r i j m) := by
            intro hb
            rw [List.range_succ, List.all_append, ← hns]; simp [hb]
          by_cases g1 : r.getD j 0 < r.getD (i + 1 + m) 0
          · rw [if_pos (decide_eq_true g1)]
            repeat' walk_at "m:step"
            refine w_itemRow S16 (by walk_at "m:mem") (by omega) (by omega) (by omega) fun t5 => ?_
            repeat' walk_at "m:step"
            simp only [Int.toNat_natCast]
            by_cases g2 : r.getD (i + 1 + m) 0 < r.getD i 0
            · rw [if_pos (decide_eq_true g2)]
              repeat' walk_at "m:step"
              refine ⟨_, ⟨rfl, ⟨_, intsAre_snoc hys _ _, ?_, ?_⟩, by omega⟩, S16.wk .here (NsHas.wk fun p hp => (nomatch hp))⟩
              · rw [List.range_succ, List.all_append]
                have : btw r i j m = true := by unfold btw; rw [decide_eq_true g1, decide_eq_true g2]; rfl
                simp [this]
              · rw [List.length_append]; simp; omega
            · rw [if_neg (by rw [decide_eq_false g2]; decide)]
              exact ⟨_, ⟨rfl, ⟨ns, hys, out (by unfold btw; rw [decide_eq_false g2, Bool.and_false]), by omega⟩, by omega⟩, S16.wk .here (NsHas.wk fun p hp => (nomatch hp))⟩
          · rw [if_neg (by rw [decide_eq_false g1]; decide)]
            rw [if_neg (by decide)]
            exact ⟨_, ⟨rfl, ⟨ns, hys, out (by unfold btw; rw [decide_eq_false g1, Bool.false_and]), by omega⟩, by omega⟩, S16.wk .here (NsHas.wk fun p hp => (nomatch hp))⟩
        · rintro ys l' s16 ⟨rfl, ⟨ns, hys, hns, _⟩, _⟩ S16
          refine compPost_none S16 fun s17 S17 => ?_
          clear S16 S15
          repeat' walk_at "m:step"
          refine w_newList S17.swap (by rw [sizeLine_eq]; simp) fun D3 s18 S18 => ?_
          clear S17
          repeat' walk_at "m:step"
          refine w_eqInts S18 (RA.le (k := 35) (j := 30) (by omega)).u64 (by walk_at "m:mem") (by walk_at "m:mem") hys .nil ?_
          rw [hns]
          repeat' walk_at "m:step"
          have hcov : covers r j i = (List.range (j - (i + 1))).all (fun m => !btw r i j m) := by unfold covers; rw [decide_eq_true hgt]; rfl
          rw [← hcov]
          have S19 : St X g s18 ((L, NsHas [(Str.ofString "found", Value.ref Fd)]) :: (L + 1 + 1 + 1, CellHas (some (.int (i : Nat) ti))) :: (I2, RIterIs ((i + 1 : Nat) : Int) ((j : Int) - ((i + 1 : Nat) : Int)) 1) :: (L + 1 + 1, CellHas (some (.int (j : Nat) tj))) :: eI :: (L + 1, CellHas (some (.ref a))) :: (Fd, ListIs fvs) :: (new ++ (Lf, NsHas bf) :: l)) :=
            S18.sub (((List.sublist_cons_self _ _).trans (List.sublist_cons_self _ _)).cons_cons _)
          clear S18
          cases hc : covers r j i with
          | false =>
            rw [if_neg (by decide)]
            rw [if_neg (by decide)]
            repeat' walk_at "m:step"
            exact fin S19 hbb1 (by rw [parI_succ, hc, if_neg (by decide)]; exact hfv)
          | true =>
            rw [if_pos rfl]
            repeat' walk_at "m:step"
            rw [if_pos rfl]
            repeat' walk_at "m:step"
            have hcl : ∀ lo hi, (cutOf r lo hi).length ≤ 20 := fun lo hi => Nat.le_trans (cutOf_len r lo hi) (by omega)
            have hsz : ∀ {n : Nat}, n ≤ 1000 → n ≤ sizeLine := fun h => by rw [sizeLine_eq]; omega
            have k1 := hcl none (some (i : Int))
            have k2 := hcl (some ((i : Int) + 1)) (some (j : Int))
            have k3 := hcl (some ((j : Int) + 1)) none
            unfold Stop
            refine w_cutRow ?_
            repeat' walk_at "m:step"
            refine ⟨a, r, none, some (i : Int), _, _, _, rfl, S19, by walk_at "m:mem", hsz (by omega), .none, .int _ _, (by intro x e; cases e), (by intro x e; cases e; omega), fun c1 s20 n1 S20 hm1 => ?_⟩
            replace hm1 := row_tail hm1
            clear S19
            repeat' walk_at "m:step"
            refine w_itemRow S20 (by walk_at "m:mem") (by omega) (by omega) (by omega) fun u1 => ?_
            repeat' walk_at "m:step"
            refine w_newRow S20 (.cons (r.getD j 0) u1 .nil) (hsz (by simp)) fun c2 s21 S21 => ?_
            clear S20
            repeat' walk_at "m:step"
            refine w_addRow S21 (.tail _ (.tail _ hm1)) (.tail _ (.head _)) (hsz (by simp; omega)) fun c3 s22 n3 S22 hm3 => ?_
            replace hm3 := row_tail hm3
            clear S21
            repeat' walk_at "m:step"
            unfold Stop
            refine w_cutRow ?_
            repeat' walk_at "m:step"
            rename St _ _ _ _ => S23
            refine ⟨a, r, some ((i : Int) + 1), some (j : Int), _, _, _, rfl, S23, by walk_at "m:mem", hsz (by omega), .int _ _, .int _ _, (by intro x e; cases e; omega), (by intro x e; cases e; omega), fun c4 s24 n4 S24 hm4 => ?_⟩
            replace hm4 := row_tail hm4
            clear S23 S22
            repeat' walk_at "m:step"
            refine w_addRow S24 (.tail _ (List.mem_append_right _ hm3)) (.tail _ hm4) (hsz (by simp; omega)) fun c5 s25 n5 S25 hm5 => ?_
            replace hm5 := row_tail hm5
            clear S24
            repeat' walk_at "m:step"
            refine w_itemRow S25 (by walk_at "m:mem") (by omega) (by omega) (by omega) fun u2 => ?_
            repeat' walk_at "m:step"
            refine w_newRow S25 (.cons (r.getD i 0) u2 .nil) (hsz (by simp)) fun c6 s26 S26 => ?_
            clear S25
            repeat' walk_at "m:step"
            refine w_addRow S26 (.tail _ (.tail _ hm5)) (.tail _ (.head _)) (hsz (by simp; omega)) fun c7 s27 n7 S27 hm7 => ?_
            replace hm7 := row_tail hm7
            clear S26
            repeat' walk_at "m:step"
            unfold Stop
            refine w_cutRow ?_
            repeat' walk_at "m:step"
            rename St _ _ _ _ => S28
            refine ⟨a, r, some ((j : Int) + 1), none, _, _, _, rfl, S28, by walk_at "m:mem", hsz (by omega), .int _ _, .none, (by intro x e; cases e; omega), (by intro x e; cases e), fun c8 s29 n8 S29 hm8 => ?_⟩
            replace hm8 := row_tail hm8
            clear S28 S27
            repeat' walk_at "m:step"
            refine w_addRow S29 (.tail _ (List.mem_append_right _ hm7)) (.tail _ hm8) (hsz (by simp; omega)) fun c9 s30 n9 S30 hm9 => ?_
            clear S29
            have pm : ∀ {z : Ent}, (z :: (n9 ++ (n8 ++ (n7 ++ (c6, RowIs [r.getD i 0]) :: (n5 ++ (n4 ++ (n3 ++ (c2, RowIs [r.getD j 0]) :: (n1 ++ (L + 1 + 1 + 1, CellHas (some (.int (i : Nat) ti))) :: (I2, RIterIs ((i + 1 : Nat) : Int) ((j : Int) - ((i + 1 : Nat) : Int)) 1) :: (L + 1 + 1, CellHas (some (.int (j : Nat) tj))) :: eI :: (L + 1, CellHas (some (.ref a))) :: (Fd, ListIs fvs) :: (new ++ (Lf, NsHas bf) :: l))))))))).Perm
                (z :: (L + 1 + 1 + 1, CellHas (some (.int (i : Nat) ti))) :: (I2, RIterIs ((i + 1 : Nat) : Int) ((j : Int) - ((i + 1 : Nat) : Int)) 1) :: (L + 1 + 1, CellHas (some (.int (j : Nat) tj))) :: eI :: (L + 1, CellHas (some (.ref a))) :: (Fd, ListIs fvs) :: ((n9 ++ (n8 ++ (n7 ++ (c6, RowIs [r.getD i 0]) :: (n5 ++ (n4 ++ (n3 ++ (c2, RowIs [r.getD j 0]) :: n1)))))) ++ (new ++ (Lf, NsHas bf) :: l))) := by
              intro z
              have := (permNew (new := n9 ++ (n8 ++ (n7 ++ (c6, RowIs [r.getD i 0]) :: (n5 ++ (n4 ++ (n3 ++ (c2, RowIs [r.getD j 0]) :: n1)))))) (es := [(L + 1 + 1 + 1, CellHas (some (.int (i : Nat) ti))), (I2, RIterIs ((i + 1 : Nat) : Int) ((j : Int) - ((i + 1 : Nat) : Int)) 1), (L + 1 + 1, CellHas (some (.int (j : Nat) tj))), eI, (L + 1, CellHas (some (.ref a))), (Fd, ListIs fvs)]) (l := new ++ (Lf, NsHas bf) :: l)).cons z
              simpa using this
            have S31 := S30.perm pm
            have hm10 := row_dropE NoTup.list (row_dropE NoTup.cell (row_dropE (b := eI.1) (P := eI.2) heI (row_dropE NoTup.cell (row_dropE NoTup.riter (row_dropE NoTup.cell (row_dropE NoTup.ns (pm.subset hm9)))))))
            clear S30 hm9 pm
            generalize hN : n9 ++ (n8 ++ (n7 ++ (c6, RowIs [r.getD i 0]) :: (n5 ++ (n4 ++ (n3 ++ (c2, RowIs [r.getD j 0]) :: n1))))) = N at S31 hm10
            have hm11 : (c9, RowIs (swapRow r j i)) ∈ N ++ (new ++ l) := by
              rcases List.mem_append.mp hm10 with h1 | h1
              · exact List.mem_append_left _ h1
              · rcases List.mem_append.mp h1 with h1 | h1
                · exact List.mem_append_right _ (List.mem_append_left _ h1)
                · exact List.mem_append_right _ (List.mem_append_right _ (row_dropE NoTup.ns h1))
            repeat' walk_at "m:step"
            refine w_append S31 (.there (.there (.there (.there (.there (.there .here)))))) (hsz (by omega)) fun s32 S32 => ?_
            clear S31
            dsimp only
            repeat' walk_at "m:step"
            refine fin (new' := N ++ new) (by rw [List.append_assoc]; exact S32) hbb1 ?_
            rw [parI_succ, hc, if_pos rfl, List.append_assoc, ← List.append_assoc (parTo r j)]
            exact (hfv.mono fun a r h => List.mem_append_right _ h).append (.cons ⟨c9, rfl, hm11⟩ .nil)
      · rw [if_neg (by rw [decide_eq_false hgt]; decide)]
        repeat' walk_at "m:step"
        have hcov : covers r j i = false := by unfold covers; rw [decide_eq_false hgt]; rfl
        rw [if_neg (by decide)]
        repeat' walk_at "m:step"
        exact fin S12 hbb1 (by rw [parI_succ, hcov, if_neg (by decide)]; exact hfv)
    · rintro b l' s12 w2 ⟨rfl, fvs, new, rfl, hfv, _⟩ S12
      dsimp only
      repeat' walk_at "m:step"
      refine ⟨_, _, _, ⟨rfl, w2, fvs, new, rfl, by rw [parTo_succ]; exact hfv⟩, S12.perm (permIdx (es := [_, _, _, _]) [0, 2, 3, 1] (by kernel_rfl))⟩
  · rintro b l' s8 w2 ⟨rfl, w, fvs, new, rfl, hfv⟩ S8
    dsimp only
    repeat' walk_at "m:step"
    refine h Fd fvs new _ ?_ hfv
    exact (S8.sub (((((List.sublist_cons_self _ _).trans (List.sublist_cons_self _ _)).trans (List.sublist_cons_self _ _)).trans (List.sublist_cons_self _ _)))).perm ((moveF0.cons _).trans (.swap _ _ _))
end
end

end Mine

namespace Mine
local macro_rules | `(tactic| walk_at "m:mem") => `(tactic| first | exact List.Mem.head _ | assumption | (refine List.Mem.tail _ ?_; walk_at "m:mem") | (refine List.mem_append_right _ ?_; walk_at "m:mem"))
local macro_rules | `(tactic| walk_at "m:glob") => `(tactic| first | exact n_len _ | exact n_range _ | exact n_sorted _ | exact n_abs _ | exact n_list _ | exact n_enumerate _ | k_is)
local macro_rules | `(tactic| walk_at "m:boot") => `(tactic| first | exact PySem.boot_len | exact PyProof.Rows.boot_range | exact PyProof.Rows.boot_sorted | exact PyProof.Rows.boot_abs | exact PyProof.Rows.boot_list | exact PyProof.Rows.boot_enumerate)
local macro_rules | `(tactic| walk_at "m:name") => `(tactic| first
  | (refine' w_local (by assumption) ?mhb ?_; (case mhb => exact rfl))
  | (refine' w_cell (by assumption) ?mhc ?mhm ?_; (case mhc => exact rfl); (case mhm => walk_at "m:mem"))
  | (refine' w_builtin (by assumption) ?mhe ?mhv ?_; (case mhe => walk_at "m:glob"); (case mhv => walk_at "m:boot"))
  | (refine' w_global (by assumption) ?mhe ?_; (case mhe => walk_at "m:glob"))
  | (refine' w_free (by assumption) ?mhc ?mhm ?_; (case mhc => exact rfl); (case mhm => walk_at "m:mem")))
local macro_rules | `(tactic| walk_at "m:kp") => `(tactic| first | exact kp_builtin | exact kp_type | exact kp_K (by assumption) (by k_is))
local macro_rules | `(tactic| walk_at "m:step") => `(tactic| first
  | with_reducible refine wpAny_items_nil ?_
  | ((with_reducible refine gd0 ?_); refine wpAny_items_cons ?_)
  | with_reducible refine wpAny_execs_nil ?_
  | with_reducible refine wpAny_execs_cons ?_
  | ((with_reducible refine gd1 ?_); walk_at "m:name")
  | ((with_reducible refine w_int (by assumption) ?_); intro _ _ _)
  | with_reducible refine wpAny_BinOp ?_
  | with_reducible refine PyProof.Rows.Subscript_ ?_
  | ((with_reducible refine gd2 ?_); refine w_Call ?_)
  | ((with_reducible refine gd3 ?_); refine wpAny_Compare1 ?_)
  | ((with_reducible refine gd4 ?_); refine wpAny_isTrue_Compare1 ?_)
  | with_reducible refine wpAny_truthy_bool ?_
  | with_reducible refine PyProof.Rows.gt_int ?_
  | with_reducible refine PyProof.Rows.lt_int ?_
  | with_reducible refine PyProof.Rows.eq_int ?_
  | with_reducible refine PyProof.Rows.ne_int ?_
  | ((with_reducible refine w_add (by assumption) ?_); intro _ _ _)
  | ((with_reducible refine w_sub (by assumption) ?_); intro _ _ _)
  | ((with_reducible refine w_and (by assumption) ?_); intro _ _ _)
  | ((with_reducible refine w_or (by assumption) ?_); intro _ _ _)
  | ((with_reducible refine w_neg (by assumption) ?_); intro _ _ _)
  | with_reducible refine wpAny_If ?_
  | ((with_reducible refine gd5 ?_); refine wpAny_Assign_Name ?_)
  | with_reducible refine wpAny_Return_some ?_
  | with_reducible refine wpAny_IfExp ?_
  | with_reducible refine wpAny_UnaryOp ?_
  | with_reducible refine wpAny_isTrue_Not ?_
  | with_reducible refine wpAny_Constant_none ?_
  | with_reducible refine wpAny_Constant_bool ?_
  | with_reducible refine wpAny_Continue ?_
  | with_reducible refine wpAny_Break ?_
  | with_reducible refine wpAny_isTrue_BoolOp ?_
  | with_reducible refine wpAny_allTrue_And_cons ?_
  | with_reducible refine wpAny_allTrue_And_nil ?_
  | with_reducible refine wpAny_allTrue_Or_cons ?_
  | with_reducible refine wpAny_allTrue_Or_nil ?_
  | ((with_reducible refine gd6 ?_); (refine w_store (by assumption) ?_); intro _ _)
  | (with_reducible refine PyProof.Rows.Tuple_ ?_)
  | (with_reducible refine PyProof.Rows.List_ ?_)
  | (with_reducible refine' And.intro ?mkp ?_; (case mkp => walk_at "m:kp"))
  | (with_reducible refine w_range1 (by assumption) ?_; intro _ _ _)
  | (with_reducible refine w_range2 (by assumption) ?_; intro _ _ _)
  | dsimp only)
local macro_rules | `(tactic| walk_at "m:glob") => `(tactic| first | exact n_heappush _ | exact n_heappop _)
local macro_rules | `(tactic| walk_at "m:step") => `(tactic| first
  | ((with_reducible refine gd7 ?_); refine wpAny_Expr ?_)
  | ((with_reducible refine gd8 ?_); refine Attribute_any_ ?_)
  | ((with_reducible refine gd9 ?_); (refine w_getPq (by assumption) (by walk_at "m:mem") (by walk_at "m:mem") ?_); intro _ _)
  | ((with_reducible refine gd10 ?_); refine Assign_Tuple ?_)
  | ((with_reducible refine gd11 ?_); refine plainObj_wpAny_Assign_Attribute ?_))
local macro_rules | `(tactic| walk_at "m:step") => `(tactic| first
  | ((with_reducible refine gd12 ?_); refine wpAny_isTrue_value ?_)
  | ((with_reducible refine gd13 ?_); refine wpAny_isTrue_value ?_))

section
def rows3 : List (List Int) := [[0, 1, 2], [0, 2, 1], [1, 0, 2], [1, 2, 0], [2, 0, 1], [2, 1, 0]]
def w3 : List Nat := [0, 1, 1, 2, 2, 3]
def par3 : List (List Nat) := [[], [0], [0], [1, 2], [1, 2], [3, 4]]
def bel3 : List Nat := [63, 58, 60, 40, 48, 32]
def rows4 : List (List Int) := [[0, 1, 2, 3], [0, 1, 3, 2], [0, 2, 1, 3], [0, 2, 3, 1], [0, 3, 1, 2], [0, 3, 2, 1], [1, 0, 2, 3], [1, 0, 3, 2], [1, 2, 0, 3], [1, 2, 3, 0], [1, 3, 0, 2], [1, 3, 2, 0], [2, 0, 1, 3], [2, 0, 3, 1], [2, 1, 0, 3], [2, 1, 3, 0], [2, 3, 0, 1], [2, 3, 1, 0], [3, 0, 1, 2], [3, 0, 2, 1], [3, 1, 0, 2], [3, 1, 2, 0], [3, 2, 0, 1], [3, 2, 1, 0]]
def w4 : List Nat := [0, 1, 1, 2, 2, 3, 1, 2, 2, 3, 3, 4, 2, 3, 3, 4, 4, 5, 3, 4, 4, 5, 5, 6]
def par4 : List (List Nat) := [[], [0], [0], [1, 2], [1, 2], [3, 4], [0], [1, 6], [2, 6], [3, 7, 8], [4, 7, 8], [9, 5, 10], [2, 6], [3, 7, 12], [8, 12], [9, 13, 14], [5, 13, 10, 14], [11, 15, 16], [4, 7, 12], [5, 13, 18], [10, 18, 14], [11, 15, 19, 20], [16, 19, 20], [17, 21, 22]]
def bel4 : List Nat := [16777215, 16756410, 16777020, 15444520, 16714800, 15403040, 16777152, 16756352, 15978240, 10652160, 15928320, 10618880, 16773120, 15441920, 15974400, 10649600, 12779520, 8519680, 16515072, 15204352, 15728640, 10485760, 12582912, 8388608]
def wK (w : List Nat) (k : Nat) : Nat := w.getD k 0
def ltK (w : List Nat) (i j : Nat) : Bool := bif Nat.beq (wK w i) (wK w j) then Nat.blt i j else Nat.blt (wK w j) (wK w i)
def LP (w : List Nat) (par : List (List Nat)) (N : Nat) (m : Nat) : LPar := ⟨N, ltK w, fun k => par.getD k [], fun k => Nat.blt (wK w k) m⟩
def keyK (w : List Nat) (k : Nat) : Int := (k : Int) - 100 * (wK w k : Int)
def belK (b : List Nat) (i j : Nat) : Bool := Nat.testBit (b.getD i 0) j
/-- the elder ones first -/
def orderK (w : List Nat) (N : Nat) : List Nat := (List.range 7).reverse.flatMap fun m => (List.range N).filter fun k => Nat.beq (wK w k) m
def dueStep (b : List Nat) (due : List Nat) (k : Nat) : List Nat := if (due.filter fun o => belK b k o) = [] then due ++ [k] else due
def dueK (w b : List Nat) (N i j : Nat) : List Nat := ((orderK w N).filter fun k => belK b k i && belK b k j).foldl (dueStep b) []
def okMb (w : List Nat) (par : List (List Nat)) (b : List Nat) (N i j : Nat) : Bool := match lRun (LP w par N 0) 60 (lInit (LP w par N 0) i [j]) with
  | some st => Nat.blt st.cs.length 64 && (List.isPerm (lRes st) (dueK w b N i j) && (decide (lRes st = [i]) == belK b i j))
  | none => false
def okFf (w : List Nat) (par : List (List Nat)) (b : List Nat) (N i j : Nat) : Bool := match lRun (LP w par N (wK w i)) 60 (lInit (LP w par N (wK w i)) i [j]) with
  | some st => Nat.blt st.cs.length 64 && (decide (lRes st = [i]) == belK b i j)
  | none => false
def rowChk (w : List Nat) (par : List (List Nat)) (b : List Nat) (N i : Nat) : Bool := (List.range N).all fun j => if i = j then belK b i j && decide (dueK w b N i j = [i]) else okMb w par b N i j && okFf w par b N i j
theorem of_blt {a b : Nat} (h : Nat.blt a b = true) : a < b := Nat.le_of_ble_eq_true h
theorem ff_of {w : List Nat} {par : List (List Nat)} {b : List Nat} {N i j : Nat} (h : okFf w par b N i j = true) : ∃ st, lRun (LP w par N (wK w i)) 60 (lInit (LP w par N (wK w i)) i [j]) = some st ∧ st.cs.length < 64 ∧ decide (lRes st = [i]) = belK b i j := by
  unfold okFf at h
  split at h
  · rename_i st hst
    rw [Bool.and_eq_true] at h
    exact ⟨st, hst, of_blt h.1, eq_of_beq h.2⟩
  · cases h
theorem mb_of {w : List Nat} {par : List (List Nat)} {b : List Nat} {N i j : Nat} (h : okMb w par b N i j = true) : ∃ st, lRun (LP w par N 0) 60 (lInit (LP w par N 0) i [j]) = some st ∧ st.cs.length < 64 ∧ (lRes st).Perm (dueK w b N i j) ∧ decide (lRes st = [i]) = belK b i j := by
  unfold okMb at h
  split at h
  · rename_i st hst
    rw [Bool.and_eq_true, Bool.and_eq_true] at h
    exact ⟨st, hst, of_blt h.1, List.isPerm_iff.mp h.2.1, eq_of_beq h.2.2⟩
  · cases h
theorem chk3_0 : rowChk w3 par3 bel3 6 0 = true := by decide +kernel
theorem chk3_1 : rowChk w3 par3 bel3 6 1 = true := by decide +kernel
theorem chk3_2 : rowChk w3 par3 bel3 6 2 = true := by decide +kernel
theorem chk3_3 : rowChk w3 par3 bel3 6 3 = true := by decide +kernel
theorem chk3_4 : rowChk w3 par3 bel3 6 4 = true := by decide +kernel
theorem chk3_5 : rowChk w3 par3 bel3 6 5 = true := by decide +kernel
theorem chk3 : ∀ i, i < 6 → rowChk w3 par3 bel3 6 i = true
  | 0, _ => chk3_0
  | 1, _ => chk3_1
  | 2, _ => chk3_2
  | 3, _ => chk3_3
  | 4, _ => chk3_4
  | 5, _ => chk3_5
  | _ + 6, h => absurd h (by omega)
theorem chk4_0 : rowChk w4 par4 bel4 24 0 = true := by decide +kernel
theorem chk4_1 : rowChk w4 par4 bel4 24 1 = true := by decide +kernel
theorem chk4_2 : rowChk w4 par4 bel4 24 2 = true := by decide +kernel
theorem chk4_3 : rowChk w4 par4 bel4 24 3 = true := by decide +kernel
theorem chk4_4 : rowChk w4 par4 bel4 24 4 = true := by decide +kernel
theorem chk4_5 : rowChk w4 par4 bel4 24 5 = true := by decide +kernel
theorem chk4_6 : rowChk w4 par4 bel4 24 6 = true := by decide +kernel
theorem chk4_7 : rowChk w4 par4 bel4 24 7 = true := by decide +kernel
theorem chk4_8 : rowChk w4 par4 bel4 24 8 = true := by decide +kernel
theorem chk4_9 : rowChk w4 par4 bel4 24 9 = true := by decide +kernel
theorem chk4_10 : rowChk w4 par4 bel4 24 10 = true := by decide +kernel
theorem chk4_11 : rowChk w4 par4 bel4 24 11 = true := by decide +kernel
theorem chk4_12 : rowChk w4 par4 bel4 24 12 = true := by decide +kernel
theorem chk4_13 : rowChk w4 par4 bel4 24 13 = true := by decide +kernel
theorem chk4_14 : rowChk w4 par4 bel4 24 14 = true := by decide +kernel
theorem chk4_15 : rowChk w4 par4 bel4 24 15 = true := by decide +kernel
theorem chk4_16 : rowChk w4 par4 bel4 24 16 = true := by decide +kernel
theorem chk4_17 : rowChk w4 par4 bel4 24 17 = true := by decide +kernel
theorem chk4_18 : rowChk w4 par4 bel4 24 18 = true := by decide +kernel
theorem chk4_19 : rowChk w4 par4 bel4 24 19 = true := by decide +kernel
theorem chk4_20 : rowChk w4 par4 bel4 24 20 = true := by decide +kernel
theorem chk4_21 : rowChk w4 par4 bel4 24 21 = true := by decide +kernel
theorem chk4_22 : rowChk w4 par4 bel4 24 22 = true := by decide +kernel
theorem chk4_23 : rowChk w4 par4 bel4 24 23 = true := by decide +kernel
theorem chk4 : ∀ i, i < 24 → rowChk w4 par4 bel4 24 i = true
  | 0, _ => chk4_0
  | 1, _ => chk4_1
  | 2, _ => chk4_2
  | 3, _ => chk4_3
  | 4, _ => chk4_4
  | 5, _ => chk4_5
  | 6, _ => chk4_6
  | 7, _ => chk4_7
  | 8, _ => chk4_8
  | 9, _ => chk4_9
  | 10, _ => chk4_10
  | 11, _ => chk4_11
  | 12, _ => chk4_12
  | 13, _ => chk4_13
  | 14, _ => chk4_14
  | 15, _ => chk4_15
  | 16, _ => chk4_16
  | 17, _ => chk4_17
  | 18, _ => chk4_18
  | 19, _ => chk4_19
  | 20, _ => chk4_20
  | 21, _ => chk4_21
  | 22, _ => chk4_22
  | 23, _ => chk4_23
  | _ + 24, h => absurd h (by omega)
structure Facts (n : Nat) (rows : List (List Int)) (w : List Nat) (par : List (List Nat)) (b : List Nat) (N : Nat) : Prop where
  hN : N = rows.length
  le : N ≤ 24
  nle : n ≤ 4
  pos : 0 < N
  len : ∀ k, k < N → (rows.getD k []).length = n
  inj : ∀ i j, i < N → j < N → rows.getD i [] = rows.getD j [] → i = j
  wr : ∀ k, k < N → wrongF (rows.getD k []) = wK w k
  wle : ∀ k, k < N → wK w k ≤ 6
  lt : ∀ i j, i < N → j < N → rowLt (rows.getD i []) (rows.getD j []) = Nat.blt i j
  parR : ∀ k, k < N → parentsF (rows.getD k []) = (par.getD k []).map fun p => rows.getD p []
  parN : ∀ k, k < N → ∀ p ∈ par.getD k [], p < N
  parL : ∀ k, k < N → (par.getD k []).length ≤ 24
  bel : ∀ i j, i < N → j < N → belowF (rows.getD i []) (rows.getD j []) = belK b i j
  chk : ∀ i, i < N → rowChk w par b N i = true
  ordP : (orderK w N).Perm (List.range N)
  ordS : (orderK w N).Pairwise fun i j => keyK w i ≤ keyK w j
  bel0 : ∀ j, j < N → belK b 0 j = true
theorem ball {N : Nat} {p : Nat → Bool} (h : (List.range N).all p = true) : ∀ k, k < N → p k = true := fun k hk => List.all_eq_true.mp h k (List.mem_range.mpr hk)
theorem ball2 {N : Nat} {p : Nat → Nat → Bool} (h : (List.range N).all (fun i => (List.range N).all (p i)) = true) : ∀ i j, i < N → j < N → p i j = true := fun i j hi hj => ball (ball h i hi) j hj
theorem facts3 : Facts 3 rows3 w3 par3 bel3 6 where
  hN := rfl
  le := by decide
  nle := by decide
  pos := by decide
  len := fun k hk => of_decide_eq_true (ball (p := fun k => decide ((rows3.getD k []).length = 3)) (by decide +kernel) k hk)
  inj := fun i j hi hj => of_decide_eq_true (ball2 (p := fun i j => decide (rows3.getD i [] = rows3.getD j [] → i = j)) (by decide +kernel) i j hi hj)
  wr := fun k hk => of_decide_eq_true (ball (p := fun k => decide (wrongF (rows3.getD k []) = wK w3 k)) (by decide +kernel) k hk)
  wle := fun k hk => of_decide_eq_true (ball (p := fun k => decide (wK w3 k ≤ 6)) (by decide +kernel) k hk)
  lt := fun i j hi hj => of_decide_eq_true (ball2 (p := fun i j => decide (rowLt (rows3.getD i []) (rows3.getD j []) = Nat.blt i j)) (by decide +kernel) i j hi hj)
  parR := fun k hk => of_decide_eq_true (ball (p := fun k => decide (parentsF (rows3.getD k []) = (par3.getD k []).map fun p => rows3.getD p [])) (by decide +kernel) k hk)
  parN := fun k hk => of_decide_eq_true (ball (p := fun k => decide (∀ p ∈ par3.getD k [], p < 6)) (by decide +kernel) k hk)
  parL := fun k hk => of_decide_eq_true (ball (p := fun k => decide ((par3.getD k []).length ≤ 24)) (by decide +kernel) k hk)
  bel := fun i j hi hj => of_decide_eq_true (ball2 (p := fun i j => decide (belowF (rows3.getD i []) (rows3.getD j []) = belK bel3 i j)) (by decide +kernel) i j hi hj)
  chk := chk3
  ordP := List.isPerm_iff.mp (by decide +kernel)
  ordS := by decide +kernel
  bel0 := fun j hj => ball (p := fun j => belK bel3 0 j) (by decide +kernel) j hj
theorem facts4 : Facts 4 rows4 w4 par4 bel4 24 where
  hN := rfl
  le := by decide
  nle := by decide
  pos := by decide
  len := fun k hk => of_decide_eq_true (ball (p := fun k => decide ((rows4.getD k []).length = 4)) (by decide +kernel) k hk)
  inj := fun i j hi hj => of_decide_eq_true (ball2 (p := fun i j => decide (rows4.getD i [] = rows4.getD j [] → i = j)) (by decide +kernel) i j hi hj)
  wr := fun k hk => of_decide_eq_true (ball (p := fun k => decide (wrongF (rows4.getD k []) = wK w4 k)) (by decide +kernel) k hk)
  wle := fun k hk => of_decide_eq_true (ball (p := fun k => decide (wK w4 k ≤ 6)) (by decide +kernel) k hk)
  lt := fun i j hi hj => of_decide_eq_true (ball2 (p := fun i j => decide (rowLt (rows4.getD i []) (rows4.getD j []) = Nat.blt i j)) (by decide +kernel) i j hi hj)
  parR := fun k hk => of_decide_eq_true (ball (p := fun k => decide (parentsF (rows4.getD k []) = (par4.getD k []).map fun p => rows4.getD p [])) (by decide +kernel) k hk)
  parN := fun k hk => of_decide_eq_true (ball (p := fun k => decide (∀ p ∈ par4.getD k [], p < 24)) (by decide +kernel) k hk)
  parL := fun k hk => of_decide_eq_true (ball (p := fun k => decide ((par4.getD k []).length ≤ 24)) (by decide +kernel) k hk)
  bel := fun i j hi hj => of_decide_eq_true (ball2 (p := fun i j => decide (belowF (rows4.getD i []) (rows4.getD j []) = belK bel4 i j)) (by decide +kernel) i j hi hj)
  chk := chk4
  ordP := List.isPerm_iff.mp (by decide +kernel)
  ordS := by decide +kernel
  bel0 := fun j hj => ball (p := fun j => belK bel4 0 j) (by decide +kernel) j hj
end

end Mine

namespace Mine
local macro_rules | `(tactic| walk_at "m:mem") => `(tactic| first | exact List.Mem.head _ | assumption | (refine List.Mem.tail _ ?_; walk_at "m:mem") | (refine List.mem_append_right _ ?_; walk_at "m:mem"))
local macro_rules | `(tactic| walk_at "m:glob") => `(tactic| first | exact n_len _ | exact n_range _ | exact n_sorted _ | exact n_abs _ | exact n_list _ | exact n_enumerate _ | k_is)
local macro_rules | `(tactic| walk_at "m:boot") => `(tactic| first | exact PySem.boot_len | exact PyProof.Rows.boot_range | exact PyProof.Rows.boot_sorted | exact PyProof.Rows.boot_abs | exact PyProof.Rows.boot_list | exact PyProof.Rows.boot_enumerate)
local macro_rules | `(tactic| walk_at "m:name") => `(tactic| first
  | (refine' w_local (by assumption) ?mhb ?_; (case mhb => exact rfl))
  | (refine' w_cell (by assumption) ?mhc ?mhm ?_; (case mhc => exact rfl); (case mhm => walk_at "m:mem"))
  | (refine' w_builtin (by assumption) ?mhe ?mhv ?_; (case mhe => walk_at "m:glob"); (case mhv => walk_at "m:boot"))
  | (refine' w_global (by assumption) ?mhe ?_; (case mhe => walk_at "m:glob"))
  | (refine' w_free (by assumption) ?mhc ?mhm ?_; (case mhc => exact rfl); (case mhm => walk_at "m:mem")))
local macro_rules | `(tactic| walk_at "m:kp") => `(tactic| first | exact kp_builtin | exact kp_type | exact kp_K (by assumption) (by k_is))
local macro_rules | `(tactic| walk_at "m:step") => `(tactic| first
  | with_reducible refine wpAny_items_nil ?_
  | ((with_reducible refine gd0 ?_); refine wpAny_items_cons ?_)
  | with_reducible refine wpAny_execs_nil ?_
  | with_reducible refine wpAny_execs_cons ?_
  | ((with_reducible refine gd1 ?_); walk_at "m:name")
  | ((with_reducible refine w_int (by assumption) ?_); intro _ _ _)
  | with_reducible refine wpAny_BinOp ?_
  | with_reducible refine PyProof.Rows.Subscript_ ?_
  | ((with_reducible refine gd2 ?_); refine w_Call ?_)
  | ((with_reducible refine gd3 ?_); refine wpAny_Compare1 ?_)
  | ((with_reducible refine gd4 ?_); refine wpAny_isTrue_Compare1 ?_)
  | with_reducible refine wpAny_truthy_bool ?_
  | with_reducible refine PyProof.Rows.gt_int ?_
  | with_reducible refine PyProof.Rows.lt_int ?_
  | with_reducible refine PyProof.Rows.eq_int ?_
  | with_reducible refine PyProof.Rows.ne_int ?_
  | ((with_reducible refine w_add (by assumption) ?_); intro _ _ _)
  | ((with_reducible refine w_sub (by assumption) ?_); intro _ _ _)
  | ((with_reducible refine w_and (by assumption) ?_); intro _ _ _)
  | ((with_reducible refine w_or (by assumption) ?_); intro _ _ _)
  | ((with_reducible refine w_neg (by assumption) ?_); intro _ _ _)
  | with_reducible refine wpAny_If ?_
  | ((with_reducible refine gd5 ?_); refine wpAny_Assign_Name ?_)
  | with_reducible refine wpAny_Return_some ?_
  | with_reducible refine wpAny_IfExp ?_
  | with_reducible refine wpAny_UnaryOp ?_
  | with_reducible refine wpAny_isTrue_Not ?_
  | with_reducible refine wpAny_Constant_none ?_
  | with_reducible refine wpAny_Constant_bool ?_
  | with_reducible refine wpAny_Continue ?_
  | with_reducible refine wpAny_Break ?_
  | with_reducible refine wpAny_isTrue_BoolOp ?_
  | with_reducible refine wpAny_allTrue_And_cons ?_
  | with_reducible refine wpAny_allTrue_And_nil ?_
  | with_reducible refine wpAny_allTrue_Or_cons ?_
  | with_reducible refine wpAny_allTrue_Or_nil ?_
  | ((with_reducible refine gd6 ?_); (refine w_store (by assumption) ?_); intro _ _)
  | (with_reducible refine PyProof.Rows.Tuple_ ?_)
  | (with_reducible refine PyProof.Rows.List_ ?_)
  | (with_reducible refine' And.intro ?mkp ?_; (case mkp => walk_at "m:kp"))
  | (with_reducible refine w_range1 (by assumption) ?_; intro _ _ _)
  | (with_reducible refine w_range2 (by assumption) ?_; intro _ _ _)
  | dsimp only)
local macro_rules | `(tactic| walk_at "m:glob") => `(tactic| first | exact n_heappush _ | exact n_heappop _)
local macro_rules | `(tactic| walk_at "m:step") => `(tactic| first
  | ((with_reducible refine gd7 ?_); refine wpAny_Expr ?_)
  | ((with_reducible refine gd8 ?_); refine Attribute_any_ ?_)
  | ((with_reducible refine gd9 ?_); (refine w_getPq (by assumption) (by walk_at "m:mem") (by walk_at "m:mem") ?_); intro _ _)
  | ((with_reducible refine gd10 ?_); refine Assign_Tuple ?_)
  | ((with_reducible refine gd11 ?_); refine plainObj_wpAny_Assign_Attribute ?_))
local macro_rules | `(tactic| walk_at "m:step") => `(tactic| first
  | ((with_reducible refine gd12 ?_); refine wpAny_isTrue_value ?_)
  | ((with_reducible refine gd13 ?_); refine wpAny_isTrue_value ?_))
local macro_rules | `(tactic| walk_at "m:kp") => `(tactic| first | exact kp_K (by assumption) (by k_is) | exact St.kpMade (by assumption) (by walk_at "m:mem") | exact St.kpLam (by assumption) (by walk_at "m:mem"))
local macro_rules | `(tactic| walk_at "m:wl") => `(tactic| first
  | refine w_methodWL (by assumption) (by walk_at "m:mem") (by walk_at "m:mem") (wl_find_iter _) (wl_fn_iter _) (wl_get_iter _) (by intro t; rfl) ?_
  | refine w_methodWL (by assumption) (by walk_at "m:mem") (by walk_at "m:mem") (wl_find_add _) (wl_fn_add _) (wl_get_add _) (by intro t; rfl) ?_
  | refine w_methodWL (by assumption) (by walk_at "m:mem") (by walk_at "m:mem") (wl_find_get _) (wl_fn_get _) (wl_get_get _) (by intro t; rfl) ?_)
local macro_rules | `(tactic| walk_at "m:step") => `(tactic| first
  | ((with_reducible refine gd14 ?_); refine MethodCall_ ?_)
  | ((with_reducible refine gd15 ?_); refine w_callW ?_)
  | ((with_reducible refine gd16 ?_); walk_at "m:wl"))
local macro_rules | `(tactic| walk_at "m:step") => `(tactic| first
  | ((with_reducible refine gd17 ?_); refine w_Try ?_)
  | ((with_reducible refine gd18 ?_); refine w_getMethodGet (by assumption) (by walk_at "m:mem") ?_)
  | ((with_reducible refine gd18 ?_); refine w_getMethodAppend (by assumption) (by walk_at "m:mem") ?_)
  | ((with_reducible refine gd19 ?_); refine w_isNone ?_)
  | ((with_reducible refine gd20 ?_); refine wpAny_Assign_Subscript ?_)
  | ((with_reducible refine gd21 ?_); simp only [List.cons_append, List.nil_append])
  | ((with_reducible refine gd22 ?_); simp only [List.cons_append, List.nil_append]))
local macro_rules | `(tactic| walk_at "m:step") => `(tactic| first
  | ((with_reducible refine gd23 ?_); refine stop_of ?_)
  | ((with_reducible refine gd24 ?_); refine wpAny_pure ?_)
  | ((with_reducible refine gd25 ?_); refine w_part ?_)
  | ((with_reducible refine gd26 ?_); refine wpAny_Call_Name_kw ?_)
  | ((with_reducible refine gd27 ?_); refine w_callKw rfl ?_)
  | ((with_reducible refine gd28 ?_); refine kwAll_cons ?_)
  | ((with_reducible refine gd29 ?_); refine kwAll_nil ?_))

section
theorem primeNum : (fun (_ : OpenLaw) (_ : Params → Frag) => True) PySem.Challenge.rw_ft5005_01 hd.heap_39 := by k_fill; trivial
section
variable {X : Cx} {g : Array GenState} {s : Shared} {l l' : List Ent} {A : Around} {E : Value → Shared → Prop} {env : Env}
theorem w_fdiv13 {a : Int} {t u : Tok} {Q : Value → Shared → Prop} (S : St X g s l) (h : ∀ s' t, St X g s' l → Q (.int (a.fdiv 13) t) s') : wpAny X.M A (binaryOp .FloorDiv (.int a t) (.int 13 u)) Q E s := PyProof.Rows.floordiv_int (by decide) (h _ _ (S.tok _))
local macro_rules | `(tactic| walk_at "m:step") => `(tactic| first
  | ((with_reducible refine w_mul (by assumption) (IntMulOk.of_right (by decide)) ?_); intro _ _ _)
  | ((with_reducible refine w_mod (by assumption) (by decide) ?_); intro _ _ _)
  | ((with_reducible refine w_fdiv13 (by assumption) ?_); intro _ _ _))
theorem St.listT (S : St X g s l) {a : Addr} {vs : List Value} (h : X.hT.IsList a vs.toArray) : s.heap.IsList a vs.toArray := by
  obtain ⟨o, ho, r⟩ := h
  exact ⟨o, S.keep _ _ ho, r⟩
theorem w_lenListT {a : Addr} {vs : List Value} {Q : Value → Shared → Prop} (S : St X g s l) (hT : X.hT.IsList a vs.toArray) (hz : vs.length < 2 ^ 62) (h : ∀ s' t, St X g s' l → Q (.int (vs.length : Nat) t) s') : wpAny X.M A (call (.builtin "len") [.ref a]) Q E s := by
  refine Calls.call_len_list (S.listT hT) (by rw [List.size_toArray]; omega) ?_
  rw [List.size_toArray]
  exact h _ _ (S.tok _)
theorem w_iterListT {ax : Addr} {items : List Value} {Q : Value → Shared → Prop} (S : St X g s l) (hT : X.hT.IsList ax items.toArray)
    (h : ∀ I s', St X g s' ((I, LIterIs ax 0) :: l) → Q (.ref I) s') : wpAny X.M A (pyIter (.ref ax)) Q E s :=
  wpAny_pyIter_list (S.listT hT) (h _ _ (S.push ⟨rfl, rfl⟩))
theorem It.listT (hh : A.handled = none) (I ax : Addr) (items : List Value) (hT : X.hT.IsList ax items.toArray) : It X A I items.length (fun i v => items[i]? = some v) (LIterIs ax) [] where
  item := by
    intro g i s l Q E hi S hn hQ
    obtain ⟨o, ho, hc, hd⟩ := S.mem (.head _)
    refine wpAny_pyNext_list_item (x := items[i]) ⟨o, ho, hc, hd⟩ (S.listT hT) (by simp [hi]) fun h' hit' hs' => hQ _ _ (by simp [hi]) ?_
    obtain ⟨o', ho', hc', hd'⟩ := hit'
    exact S.upd (s' := { s with heap := h' }) .here (fun b o hb e => hs'.extBut b o hb e) ho' ⟨hc', hd'⟩
  done := by
    intro g s l Q E S hn hQ
    obtain ⟨o, ho, hc, hd⟩ := S.mem (.head _)
    exact wpAny_pyNext_list_end hh ⟨o, ho, hc, hd⟩ (S.listT hT) (by simp) fun h' he' => hQ _ (S.drop (s' := { s with heap := h' }) fun b o hb e => he' b o hb e)
  self := by
    intro g i s l Q E S h
    obtain ⟨o, ho, hc, hd⟩ := S.mem (.head _)
    exact wpAny_pyIter_listiter ⟨o, ho, hc, hd⟩ h
theorem ints_mem {vs : List Value} {ns : List Int} (h : IntsAre vs ns) {i : Nat} {v : Value} (e : vs[i]? = some v) : ∃ k t, v = .int k t := by
  induction h generalizing i with
  | nil => simp at e
  | cons n t _ ih =>
    cases i with
    | zero => simp at e; exact ⟨n, t, e.symm⟩
    | succ i => simp at e; exact ih e
theorem c_numbers {Lf sc : Addr} {bf : List (Str × Value)} {vs : List Value} {ns : List Int} {t : Tok} {Q : Value → Shared → Prop} (S : St X g s ((Lf, NsHas bf) :: l)) (R : Rm A 40) (hs : X.hT.IsList sc vs.toArray) (hi : IntsAre vs ns) (h63 : ns.length ≤ 63)
    (h : ∀ p us ms s', St X g s' ((Lf, NsHas bf) :: (p, ListIs us) :: l) → IntsAre us ms → ms.length = 5 → Q (.ref p) s') : wpAny X.M A (call (.ref 116) [.ref sc, .int 5 t] []) Q E s := by
  refine' w_def (binds := [(Str.ofString "script", .ref sc), (Str.ofString "many", .int 5 t)]) S R ?ho ?hcd ?hbind ?h ?hloc ?hcell ?hco ?hgen ?hk
  case ho => k_is
  case hcd => k_is
  case hbind => exact BindsTo.of_eq rfl
  case hloc => rfl
  case hcell => decide
  case hco => rfl
  case hgen => rfl
  case hk => rfl
  intro L s1 S1
  replace S1 : St X g s1 ((L, NsHas [(Str.ofString "many", .int 5 t), (Str.ofString "script", .ref sc)]) :: (Lf, NsHas bf) :: l) := S1
  clear S
  have RA : ∀ {e : Env}, Rm (A.deeper e) 39 := fun {e} => R.deeper e
  have hvl := hi.length
  repeat' walk_at "m:step"
  refine w_Assign_ListComp (cl := []) (by rfl) (by rfl) ?_
  repeat' walk_at "m:step"
  unfold Stop
  refine w_cutList ?_
  repeat' walk_at "m:step"
  refine ⟨sc, vs, none, some 5, _, _, _, rfl, S1, S1.listT hs, by rw [sizeLine_eq]; omega, .none, .int _ _, fun c1 s2 S2 => ?_⟩
  have hcut : IntsAre (kms_pick vs none (some 5)) ((ns.drop (kms_lo none vs.length)).take (kms_hi (some 5) vs.length - kms_lo none vs.length)) := (hi.drop _).take _
  have hcl : (kms_pick vs none (some 5)).length ≤ 5 := by
    unfold kms_pick
    rw [List.length_take, List.length_drop]
    simp [kms_lo, kms_hi]; omega
  generalize kms_pick vs none (some 5) = cv at *
  generalize (ns.drop (kms_lo none vs.length)).take (kms_hi (some 5) vs.length - kms_lo none vs.length) = cn at *
  clear S1
  repeat' walk_at "m:step"
  refine w_iterList (f := (L, NsHas [])) S2 (.tail _ (.head _)) fun I s3 S3 => ?_
  refine w_compGo (It.list (A := _) RA.hh I c1 cv) S3 fun C D s4 S4 => ?_
  clear S3 S2
  refine w_compLoop (It.list (A := _) RA.hh I c1 cv) (fun i ys l' => l' = _ ∧ (∃ ms, IntsAre ys ms ∧ ms.length = i) ∧ i ≤ 5) ?_ S4 ⟨rfl, ⟨[], .nil, rfl⟩, by omega⟩ ?_ ?_ rfl rfl
  · rintro i ys l' ⟨rfl, ⟨ms, hys, hm⟩, h5⟩
    refine ⟨fun p hp => ?_, by rw [hys.length, sizeLine_eq]; omega⟩
    rcases List.mem_singleton.mp hp with rfl
    exact .tail _ (.head _)
  · rintro i v ys l' s5 hii hv ⟨rfl, ⟨ms, hys, hm⟩, h5⟩ S5
    obtain ⟨k, u, rfl⟩ := ints_mem hcut hv
    refine wpAny_tests_nil ?_
    rw [if_pos rfl]
    repeat' walk_at "m:step"
    exact ⟨_, ⟨rfl, ⟨_, intsAre_snoc hys _ _, by rw [List.length_append, hm]; rfl⟩, by omega⟩, S5.wk .here (NsHas.wk fun p hp => (nomatch hp))⟩
  · rintro ys l' s5 ⟨rfl, ⟨ms, hys, hm⟩, _⟩ S5
    refine compPost_use (S5.perm (permIdx (es := [_, _, _]) [0, 2, 1] (by kernel_rfl))) (fun s6 S6 => ?_)
    clear S5 S4
    replace S6 : St X g s6 ((L, NsHas [(Str.ofString "found", .ref D), (Str.ofString "many", .int 5 t), (Str.ofString "script", .ref sc)]) :: (D, ListIs ys) :: (c1, ListIs cv) :: (Lf, NsHas bf) :: l) := S6
    repeat' walk_at "m:step"
    rename St _ _ _ _ => S7
    refine w_lenListT S7 hs (by omega) fun s8 t8 S8 => ?_
    clear S7 S6
    repeat' walk_at "m:step"
    rename St _ _ _ _ => S9
    refine w_For ?_
    repeat' walk_at "m:step"
    refine w_iterListT S9 hs fun I2 s10 S10 => ?_
    clear S9 S8
    refine w_forLoop (It.listT (A := _) RA.hh I2 sc vs hs) (fun i b l' => ∃ z tz, b = [(Str.ofString "last", .int z tz), (Str.ofString "found", Value.ref D), (Str.ofString "many", .int 5 t), (Str.ofString "script", .ref sc)] ∧ l' = (D, ListIs ys) :: (Lf, NsHas bf) :: l) (fun _ _ _ _ _ hp => nomatch hp) (S10.sub ((((List.sublist_cons_self _ _).cons_cons _).cons_cons _).cons_cons _)) ⟨_, _, rfl, rfl⟩ ?_ ?_
    · rintro i v b l' s11 hii hv ⟨z, tz, rfl, rfl⟩ S11
      obtain ⟨k, u, rfl⟩ := ints_mem hi hv
      clear S10
      repeat' walk_at "m:step"
      rename St _ _ _ _ => S12
      obtain ⟨z', tz', S13⟩ : ∃ z' tz', St X g _ ((L, NsHas ((Str.ofString "last", .int z' tz') :: _)) :: (I2, LIterIs sc (i + 1)) :: (D, ListIs ys) :: (Lf, NsHas bf) :: l) := ⟨_, _, S12⟩
      refine ⟨_, _, ⟨z', tz', rfl, rfl⟩, S13.wk .here (NsHas.wk fun p hp => ?_)⟩
      simp only [List.mem_cons, List.not_mem_nil, or_false] at hp
      rcases hp with rfl | rfl | rfl | rfl <;> rfl
    · rintro b l' s11 ⟨z, tz, rfl, rfl⟩ S11
      clear S10
      dsimp only
      repeat' walk_at "m:step"
      have hys5 : ms.length ≤ 5 := by omega
      refine w_While (fun n s => ∃ us ms z tz, St X g s ((L, NsHas [(Str.ofString "last", .int z tz), (Str.ofString "found", Value.ref D), (Str.ofString "many", .int 5 t), (Str.ofString "script", .ref sc)]) :: (D, ListIs us) :: (Lf, NsHas bf) :: l) ∧ IntsAre us ms ∧ ms.length + n = 5) (5 - ms.length) ⟨ys, ms, z, tz, S11, hys, by omega⟩ ?_
      rintro n s12 ⟨us, ms2, z2, tz2, S12, hus, hn⟩
      clear S11
      have hul := hus.length
      repeat' walk_at "m:step"
      refine w_lenList S12 (.tail _ (.head _)) (by omega) fun s13 t13 S13 => ?_
      clear S12
      repeat' walk_at "m:step"
      by_cases h5 : us.length < 5
      · rw [if_pos (by simpa using (show ((us.length : Nat) : Int) < 5 by omega))]
        repeat' walk_at "m:step"
        rename St _ _ _ _ => S14
        refine w_append S14 (.there .here) (by rw [sizeLine_eq]; omega) fun s15 S15 => ?_
        dsimp only
        repeat' walk_at "m:step"
        obtain ⟨z', tz', S16⟩ : ∃ z' tz', St X g _ ((L, NsHas ((Str.ofString "last", .int z' tz') :: _)) :: (D, ListIs _) :: (Lf, NsHas bf) :: l) := ⟨_, _, S15⟩
        refine ⟨n - 1, by omega, _, _, z', tz', S16.wk .here (NsHas.wk fun p hp => ?_), intsAre_snoc hus _ _, by rw [List.length_append]; simp; omega⟩
        simp only [List.mem_cons, List.not_mem_nil, or_false] at hp
        rcases hp with rfl | rfl | rfl | rfl <;> rfl
      · rw [if_neg (by simp; omega)]
        repeat' walk_at "m:step"
        dsimp only [retOf]
        exact h D us ms2 _ ((S13.sub (List.sublist_cons_self _ _)).swap) hus (by omega)
end
end

end Mine

namespace Mine
local macro_rules | `(tactic| walk_at "m:mem") => `(tactic| first | exact List.Mem.head _ | assumption | (refine List.Mem.tail _ ?_; walk_at "m:mem") | (refine List.mem_append_right _ ?_; walk_at "m:mem"))
local macro_rules | `(tactic| walk_at "m:glob") => `(tactic| first | exact n_len _ | exact n_range _ | exact n_sorted _ | exact n_abs _ | exact n_list _ | exact n_enumerate _ | k_is)
local macro_rules | `(tactic| walk_at "m:boot") => `(tactic| first | exact PySem.boot_len | exact PyProof.Rows.boot_range | exact PyProof.Rows.boot_sorted | exact PyProof.Rows.boot_abs | exact PyProof.Rows.boot_list | exact PyProof.Rows.boot_enumerate)
local macro_rules | `(tactic| walk_at "m:name") => `(tactic| first
  | (refine' w_local (by assumption) ?mhb ?_; (case mhb => exact rfl))
  | (refine' w_cell (by assumption) ?mhc ?mhm ?_; (case mhc => exact rfl); (case mhm => walk_at "m:mem"))
  | (refine' w_builtin (by assumption) ?mhe ?mhv ?_; (case mhe => walk_at "m:glob"); (case mhv => walk_at "m:boot"))
  | (refine' w_global (by assumption) ?mhe ?_; (case mhe => walk_at "m:glob"))
  | (refine' w_free (by assumption) ?mhc ?mhm ?_; (case mhc => exact rfl); (case mhm => walk_at "m:mem")))
local macro_rules | `(tactic| walk_at "m:kp") => `(tactic| first | exact kp_builtin | exact kp_type | exact kp_K (by assumption) (by k_is))
local macro_rules | `(tactic| walk_at "m:step") => `(tactic| first
  | with_reducible refine wpAny_items_nil ?_
  | ((with_reducible refine gd0 ?_); refine wpAny_items_cons ?_)
  | with_reducible refine wpAny_execs_nil ?_
  | with_reducible refine wpAny_execs_cons ?_
  | ((with_reducible refine gd1 ?_); walk_at "m:name")
  | ((with_reducible refine w_int (by assumption) ?_); intro _ _ _)
  | with_reducible refine wpAny_BinOp ?_
  | with_reducible refine PyProof.Rows.Subscript_ ?_
  | ((with_reducible refine gd2 ?_); refine w_Call ?_)
  | ((with_reducible refine gd3 ?_); refine wpAny_Compare1 ?_)
  | ((with_reducible refine gd4 ?_); refine wpAny_isTrue_Compare1 ?_)
  | with_reducible refine wpAny_truthy_bool ?_
  | with_reducible refine PyProof.Rows.gt_int ?_
  | with_reducible refine PyProof.Rows.lt_int ?_
  | with_reducible refine PyProof.Rows.eq_int ?_
  | with_reducible refine PyProof.Rows.ne_int ?_
  | ((with_reducible refine w_add (by assumption) ?_); intro _ _ _)
  | ((with_reducible refine w_sub (by assumption) ?_); intro _ _ _)
  | ((with_reducible refine w_and (by assumption) ?_); intro _ _ _)
  | ((with_reducible refine w_or (by assumption) ?_); intro _ _ _)
  | ((with_reducible refine w_neg (by assumption) ?_); intro _ _ _)
  | with_reducible refine wpAny_If ?_
  | ((with_reducible refine gd5 ?_); refine wpAny_Assign_Name ?_)
  | with_reducible refine wpAny_Return_some ?_
  | with_reducible refine wpAny_IfExp ?_
  | with_reducible refine wpAny_UnaryOp ?_
  | with_reducible refine wpAny_isTrue_Not ?_
  | with_reducible refine wpAny_Constant_none ?_
  | with_reducible refine wpAny_Constant_bool ?_
  | with_reducible refine wpAny_Continue ?_
  | with_reducible refine wpAny_Break ?_
  | with_reducible refine wpAny_isTrue_BoolOp ?_
  | with_reducible refine wpAny_allTrue_And_cons ?_
  | with_reducible refine wpAny_allTrue_And_nil ?_
  | with_reducible refine wpAny_allTrue_Or_cons ?_
  | with_reducible refine wpAny_allTrue_Or_nil ?_
  | ((with_reducible refine gd6 ?_); (refine w_store (by assumption) ?_); intro _ _)
  | (with_reducible refine PyProof.Rows.Tuple_ ?_)
  | (with_reducible refine PyProof.Rows.List_ ?_)
  | (with_reducible refine' And.intro ?mkp ?_; (case mkp => walk_at "m:kp"))
  | (with_reducible refine w_range1 (by assumption) ?_; intro _ _ _)
  | (with_reducible refine w_range2 (by assumption) ?_; intro _ _ _)
  | dsimp only)
local macro_rules | `(tactic| walk_at "m:glob") => `(tactic| first | exact n_heappush _ | exact n_heappop _)
local macro_rules | `(tactic| walk_at "m:step") => `(tactic| first
  | ((with_reducible refine gd7 ?_); refine wpAny_Expr ?_)
  | ((with_reducible refine gd8 ?_); refine Attribute_any_ ?_)
  | ((with_reducible refine gd9 ?_); (refine w_getPq (by assumption) (by walk_at "m:mem") (by walk_at "m:mem") ?_); intro _ _)
  | ((with_reducible refine gd10 ?_); refine Assign_Tuple ?_)
  | ((with_reducible refine gd11 ?_); refine plainObj_wpAny_Assign_Attribute ?_))
local macro_rules | `(tactic| walk_at "m:step") => `(tactic| first
  | ((with_reducible refine gd12 ?_); refine wpAny_isTrue_value ?_)
  | ((with_reducible refine gd13 ?_); refine wpAny_isTrue_value ?_))
local macro_rules | `(tactic| walk_at "m:kp") => `(tactic| first | exact kp_K (by assumption) (by k_is) | exact St.kpMade (by assumption) (by walk_at "m:mem") | exact St.kpLam (by assumption) (by walk_at "m:mem"))
local macro_rules | `(tactic| walk_at "m:wl") => `(tactic| first
  | refine w_methodWL (by assumption) (by walk_at "m:mem") (by walk_at "m:mem") (wl_find_iter _) (wl_fn_iter _) (wl_get_iter _) (by intro t; rfl) ?_
  | refine w_methodWL (by assumption) (by walk_at "m:mem") (by walk_at "m:mem") (wl_find_add _) (wl_fn_add _) (wl_get_add _) (by intro t; rfl) ?_
  | refine w_methodWL (by assumption) (by walk_at "m:mem") (by walk_at "m:mem") (wl_find_get _) (wl_fn_get _) (wl_get_get _) (by intro t; rfl) ?_)
local macro_rules | `(tactic| walk_at "m:step") => `(tactic| first
  | ((with_reducible refine gd14 ?_); refine MethodCall_ ?_)
  | ((with_reducible refine gd15 ?_); refine w_callW ?_)
  | ((with_reducible refine gd16 ?_); walk_at "m:wl"))
local macro_rules | `(tactic| walk_at "m:step") => `(tactic| first
  | ((with_reducible refine gd17 ?_); refine w_Try ?_)
  | ((with_reducible refine gd18 ?_); refine w_getMethodGet (by assumption) (by walk_at "m:mem") ?_)
  | ((with_reducible refine gd18 ?_); refine w_getMethodAppend (by assumption) (by walk_at "m:mem") ?_)
  | ((with_reducible refine gd19 ?_); refine w_isNone ?_)
  | ((with_reducible refine gd20 ?_); refine wpAny_Assign_Subscript ?_)
  | ((with_reducible refine gd21 ?_); simp only [List.cons_append, List.nil_append])
  | ((with_reducible refine gd22 ?_); simp only [List.cons_append, List.nil_append]))

section
theorem primeSort3 : (fun (_ : OpenLaw) (_ : Params → Frag) => True) PySem.Challenge.rw_ft5005_01 hd.heap_39 := by k_fill; trivial
section
variable {X : Cx} {g : Array GenState} {s : Shared} {l l' : List Ent} {A : Around} {E : Value → Shared → Prop} {env : Env}
theorem katLex_ints {b fin : Bool} {Q : Bool → Shared → Prop} : ∀ {vs us : List Value} {r q : List Int} (i : Nat), IntsAre vs r → IntsAre us q → fin = decide (r.length < q.length) → Q (rowLt r q) s → KatLex Pg X.w A b fin Q (vs.zip us) i s
  | _, _, _, _, i, .nil, .nil, hf, h => by
    subst hf; exact kat_nil h
  | _, _, _, _, i, .nil, .cons n t h', hf, h => by
    subst hf; exact kat_nil (by simpa [rowLt] using h)
  | _, _, _, _, i, .cons n t h', .nil, hf, h => by
    subst hf; exact kat_nil (by simpa [rowLt] using h)
  | _, _, _, _, i, .cons n t (ns := r) h1, .cons m u (ns := q) h2, hf, h => by
    rw [List.zip_cons_cons]
    refine kat_cons (wpAny_eqBool_int (kat_go (fun e => ?_) fun e => ?_))
    · refine kat_yes (katLex_ints (i + 1) h1 h2 (by rw [hf]; simp) ?_)
      have : n = m := by simpa using e
      subst this
      simpa [rowLt] using h
    · have hne : ¬ n = m := by simpa using e
      have h3 : Q (decide (n < m)) s := by simpa [rowLt, hne] using h
      refine kat_no ?_
      cases hb : (b && i == 0) with
      | true => exact kat_lt_int h3
      | false => exact kat_one _ _ (lt_int h3)
theorem lt_rowKey {a b : Addr} {r q : List Int} {Q : Bool → Shared → Prop} (S : St X g s l) (ha : (a, RowIs r) ∈ l) (hb : (b, RowIs q) ∈ l) (h : Q (rowLt r q) s) : wpAny X.M A (keyLt' (tuples' true) (.ref a) (.ref b)) Q E s := by
  obtain ⟨o, ho, vs, ⟨n, rfl⟩, hi⟩ := S.mem ha
  obtain ⟨o2, ho2, us, ⟨m, rfl⟩, hj⟩ := S.mem hb
  exact kat_lt ho rfl ho2 rfl (katLex_ints 0 hi hj (by simp [hi.length, hj.length]) h)
theorem lt_pairKey {p p' a b : Addr} {k k' : Int} {r q : List Int} {Q : Bool → Shared → Prop} (S : St X g s l) (hu : A.units + 1 < cLine) (hp : (p, PairIs k a) ∈ l) (hp' : (p', PairIs k' b) ∈ l) (ha : (a, RowIs r) ∈ l) (hb : (b, RowIs q) ∈ l) (h : Q (pairLt k r k' q) s) :
    wpAny X.M A (keyLt' (tuples' true) (.ref p) (.ref p')) Q E s := by
  obtain ⟨o, ho, t, n, rfl⟩ := S.mem hp
  obtain ⟨o2, ho2, u, m, rfl⟩ := S.mem hp'
  refine kat_lt ho rfl ho2 rfl ?_
  show KatLex Pg X.w A true (decide (2 < 2)) Q [(.int k t, .int k' u), (.ref a, .ref b)] 0 s
  refine kat_cons (wpAny_eqBool_int (kat_go (fun e => ?_) fun e => ?_))
  · have : k = k' := by simpa using e
    subst this
    have heq := S.eqRow (A := A) (show A.units < cLine by omega) ha hb
    refine kat_yes (kat_cons (heq Pg X.w (fun _ _ => False) _ (kat_go (fun e2 => ?_) fun e2 => ?_)))
    · have : r = q := of_decide_eq_true e2
      subst this
      refine kat_yes (kat_nil ?_)
      have h2 : pairLt k r k r = false := by unfold pairLt; rw [if_pos rfl, rowLt_irrefl]
      rw [h2] at h
      simpa using h
    · refine kat_no (kat_one _ _ ?_)
      have h2 : pairLt k r k q = rowLt r q := by unfold pairLt; rw [if_pos rfl]
      rw [h2] at h
      have hlt := S.ltRow (A := A) (show A.units < cLine by omega) ha hb
      exact hlt Pg X.w (fun _ _ => False) (PySem.W.BoolBack Q) h
  · have hne : ¬ k = k' := by simpa using e
    have h2 : pairLt k r k' q = decide (k < k') := by unfold pairLt; rw [if_neg hne]
    rw [h2] at h
    exact kat_no (kat_lt_int h)
theorem list_sort_short {a : Addr} {vs : List Value} {n : Nat} {P : PySem.Fin → Shared → Prop} (ho : s.heap.get? a = some (seqObj "list" vs.toArray n)) (h1 : vs.length < 2)
    (h : P (.done (.ret .none)) { s with heap := sortedHeap s.heap a vs vs.toArray }) : wpAny X.M A (Builtin.«list.sort» ⟨[.ref a], []⟩) P E s := by
  rw [list_sort_plain]
  have ha : a < s.heap.objs.size := Heap.lt_size ho
  have hz : vs.toArray.size ≤ sizeLine := by rw [List.size_toArray, sizeLine_eq]; omega
  refine wpAny_bind (listItems_at ho rfl ?_)
  refine wpAny_bind (listUpdate_at ho rfl ?_ hz (Nat.zero_le _))
  obtain ⟨e1, ho1⟩ : ∃ e1, (s.heap.update a (Obj.mapSeq fun _ => #[])).get? a = some (seqObj "list" #[] e1) := ⟨_, get?_update_seq ho (fun _ => #[])⟩
  refine wpAny_bind (seqEpoch_at ho1 rfl ?_)
  refine wpAny_bind (wpAny_newTuple ?_ (by simpa using hz))
  refine wpAny_bind (wpAny_newList ?_)
  refine wpAny_holding ?_
  have ho6 : (((s.heap.update a (Obj.mapSeq fun _ => #[])).push (seqObj "tuple" vs.toArray 0)).push (seqObj "list" #[] 0)).get? a = some (seqObj "list" #[] e1) := by
    rw [Heap.get?_push_ne _ _ _ (by rw [size_push', Heap.size_update]; exact Nat.ne_of_lt (Nat.lt_succ_of_lt ha)), Heap.get?_push_ne _ _ _ (by rw [Heap.size_update]; exact Nat.ne_of_lt ha)]
    exact ho1
  show wpAny _ A _ P E { s with heap := ((s.heap.update a (Obj.mapSeq fun _ => #[])).push (seqObj "tuple" vs.toArray 0)).push (seqObj "list" #[] 0) }
  dsimp only
  have h2 : vs.toArray.size < 2 := by rw [List.size_toArray]; exact h1
  have hzip : (arrOf (SortSt.mk' general' (vs.toArray.zip vs.toArray) #[] 7 none)).map (·.2) = vs.toArray := by
    rw [show arrOf (SortSt.mk' general' (vs.toArray.zip vs.toArray) #[] 7 none) = vs.toArray.zip vs.toArray from rfl, List.zip_toArray, List.map_toArray, List.map_snd_zip (Nat.le_refl _)]
  rw [if_pos h2, if_pos h2]
  refine wpAny_bind (wpAny_pure ?_)
  rw [StateT.run_pure]
  refine wpAny_bind (wpAny_pure ?_)
  dsimp only
  refine wpAny_bind (seqEpoch_at ho6 rfl ?_)
  refine wpAny_bind (listUpdate_at ho6 rfl ?_ (Nat.zero_le _) (by show ((arrOf (SortSt.mk' general' (vs.toArray.zip vs.toArray) #[] 7 none)).map (·.2)).size ≤ _; rw [hzip]; omega))
  simp only [bne_self_eq_false, Bool.false_eq_true, if_false]
  refine wpAny_pure ?_
  rw [hzip]
  exact h
theorem w_sortedShort {a : Addr} {vs : List Value} {f : Ent} {Q : Value → Shared → Prop} (S : St X g s (f :: l)) (hm : (a, ListIs vs) ∈ f :: l) (h1 : vs.length < 2)
    (h : ∀ D s', St X g s' (f :: (D, ListIs vs) :: l) → Q (.ref D) s') : wpAny X.M A (call (.builtin "sorted") [.ref a]) Q E s := by
  obtain ⟨o, ho, n, rfl⟩ := S.mem hm
  refine Calls.call_function_entry kind_sorted plain_sorted entry_sorted (args_sorted1 _) ?_
  unfold Builtin.«sorted»
  refine wpAny_bind (m := checkCount "sorted" 1 1 _) (wpAny_pure ?_)
  refine wpAny_bind (wpAny_collect_seq a (.inl rfl) ho rfl rfl (fun h1' hk1 => ?_) (by rw [List.size_toArray, sizeLine_eq]; omega))
  refine wpAny_bind (wpAny_newList ?_ (by rw [sizeLine_eq]; simp; omega))
  show wpAny _ _ _ _ _ { s with heap := h1'.push (seqObj "list" vs.toArray 0) }
  have hoL : (h1'.push (seqObj "list" vs.toArray 0)).get? h1'.objs.size = some (seqObj "list" vs.toArray 0) := Heap.get?_push_size _ rfl
  refine wpAny_bind (wpAny_holding (wpAny_call_entry slot_list_sort ⟨_, hoL, rfl⟩ entry_list_sort (list_sort_short hoL h1 ⟨_, rfl, ?_⟩) (args_list_sort _)))
  refine wpAny_pure ⟨_, rfl, ?_⟩
  obtain ⟨e, he⟩ := sortedHeap_at (out := vs.toArray) hoL
  have S1 : St X g { s with heap := h1' } (f :: l) := S.all (s' := { s with heap := h1' }) hk1
  refine h h1'.objs.size _ (St.swap (St.add (s := { s with heap := h1' }) S1 (fun b o e => ?_) (none_size (Nat.le_refl _)) he ⟨e, by simp⟩ S1.ne_size))
  have hb := Heap.lt_size e
  exact (sortedHeap_old (Nat.ne_of_lt hb) (by rw [size_push']; exact Nat.lt_succ_of_lt hb)).trans (Heap.get?_push_of_some _ e)
theorem looks_int {h : Heap} {n : Int} {t : Tok} : Looks X.M h (typeOf (.int n t)) (.type "int") := .now
theorem firsts_rows {D : Dag} (hne : ∀ k, k < D.N → D.row k ≠ []) (S : St X g s l) : ∀ {vs : List Value} {ks : List Nat}, All2 (RowV D l) vs ks → ∃ fs, KatTups s.heap vs fs ∧ fs.length = vs.length ∧ ∀ v ∈ fs, Looks X.M s.heap (typeOf v) (.type "int")
  | _, _, .nil => ⟨[], .nil, rfl, fun _ h => nomatch h⟩
  | _, _, .cons h r => by
    obtain ⟨fs, h1, h2, h3⟩ := firsts_rows hne S r
    obtain ⟨a, rfl, hN, hm⟩ := h
    obtain ⟨o, ho, us, ⟨n, rfl⟩, hi⟩ := S.mem hm
    cases hr : D.row _ with
    | nil => exact absurd hr (hne _ hN)
    | cons x q =>
      rw [hr] at hi
      cases hi with
      | cons n t hi => exact ⟨.int x t :: fs, .cons ho rfl rfl (by simp) h1, by simp [h2], fun v hv => by
          rcases List.mem_cons.mp hv with rfl | hv
          · exact looks_int
          · exact h3 v hv⟩
theorem firsts_pairs {D : Dag} {f : Int → Int} (S : St X g s l) : ∀ {vs : List Value} {ks : List Nat}, All2 (PairV D f l) vs ks → ∃ fs, KatTups s.heap vs fs ∧ fs.length = vs.length ∧ ∀ v ∈ fs, Looks X.M s.heap (typeOf v) (.type "int")
  | _, _, .nil => ⟨[], .nil, rfl, fun _ h => nomatch h⟩
  | _, k :: _, .cons h r => by
    obtain ⟨fs, h1, h2, h3⟩ := firsts_pairs S r
    obtain ⟨p, a, rfl, hN, hp, hm⟩ := h
    obtain ⟨o, ho, t, n, rfl⟩ := S.mem hp
    exact ⟨.int (f (D.st k)) t :: fs, .cons ho rfl rfl (by simp) h1, by simp [h2], fun v hv => by
      rcases List.mem_cons.mp hv with rfl | hv
      · exact looks_int
      · exact h3 v hv⟩
theorem all2_perm {R : Value → Nat → Prop} {vs : List Value} {ks : List Nat} (h : All2 R vs ks) {p : List Nat} (hp : p.Perm (List.range vs.length)) : All2 R (p.map fun i => vs.getD i Value.none) (p.map fun i => ks.getD i 0) ∧ (p.map fun i => ks.getD i 0).Perm ks := by
  constructor
  · have : ∀ q : List Nat, (∀ i ∈ q, i < vs.length) → All2 R (q.map fun i => vs.getD i Value.none) (q.map fun i => ks.getD i 0) := by
      intro q
      induction q with
      | nil => intro _; exact .nil
      | cons i q ih =>
        intro hq
        have hi := hq i (.head _)
        obtain ⟨b, hb, hr⟩ := h.get (i := i) (a := vs[i]) (by simp [hi])
        refine .cons ?_ (ih fun j hj => hq j (.tail _ hj))
        show R (vs.getD i Value.none) (ks.getD i 0)
        rw [List.getD_eq_getElem?_getD, List.getD_eq_getElem?_getD, hb, List.getElem?_eq_getElem hi]
        exact hr
    exact this p fun i hi => List.mem_range.mp (hp.mem_iff.mp hi)
  · have h2 := hp.map fun i => ks.getD i 0
    refine h2.trans ?_
    rw [h.length]
    have : (List.range ks.length).map (fun i => ks.getD i 0) = ks := by
      apply List.ext_getElem
      · simp
      · intro i h1 h2; simp at h1 h2 ⊢; simp [h1]
    rw [this]
theorem w_sortedRows {D : Dag} {L a : Addr} {b : List (Str × Value)} {vs : List Value} {ks : List Nat} {key : Nat → Int} {Q : Value → Shared → Prop} (S : St X g s ((L, NsHas b) :: l)) (hm : (a, ListIs vs) ∈ l) (hv : All2 (RowV D l) vs ks) (h64 : vs.length < 64) (hne : ∀ k, k < D.N → D.row k ≠ [])
    (hlt : ∀ i j, i < D.N → j < D.N → rowLt (D.row i) (D.row j) = decide (key i < key j))
    (h : ∀ Dr s' vs' ks', St X g s' ((L, NsHas b) :: (Dr, ListIs vs') :: l) → All2 (RowV D l) vs' ks' → ks'.Perm ks → ks'.Pairwise (fun i j => key i ≤ key j) → Q (.ref Dr) s') : wpAny X.M A (call (.builtin "sorted") [.ref a]) Q E s := by
  have hl := hv.length
  by_cases h2 : vs.length < 2
  · refine w_sortedShort S (.tail _ hm) h2 fun Dr s' S' => h Dr s' vs ks S' hv (.refl _) ?_
    match ks, hl with
    | [], _ => exact .nil
    | [k], _ => simp
    | _ :: _ :: _, hl => simp at hl; omega
  · refine w_sortedTups (T := .type "int") (key := fun i => key (ks.getD i 0)) S hm (by omega) h64 (fun s' S' => ?_) (by decide) (fun s' S' i j hi hj Q hq => ?_) fun Dr s' p S' hp ho => ?_
    · obtain ⟨fs, f1, f2, f3⟩ := firsts_rows hne S' (hv.mono fun _ _ x => x.mono fun e he => .tail _ he)
      exact ⟨fs, f1, by omega, f3⟩
    · obtain ⟨ki, e1, r1⟩ := hv.get (i := i) (a := vs[i]) (by simp [hi])
      obtain ⟨kj, e2, r2⟩ := hv.get (i := j) (a := vs[j]) (by simp [hj])
      obtain ⟨ai, q1, n1, m1⟩ := r1
      obtain ⟨aj, q2, n2, m2⟩ := r2
      have g1 : vs.getD i Value.none = .ref ai := by rw [List.getD_eq_getElem?_getD, List.getElem?_eq_getElem hi]; exact q1
      have g2 : vs.getD j Value.none = .ref aj := by rw [List.getD_eq_getElem?_getD, List.getElem?_eq_getElem hj]; exact q2
      have g3 : ks.getD i 0 = ki := by rw [List.getD_eq_getElem?_getD, e1]; rfl
      have g4 : ks.getD j 0 = kj := by rw [List.getD_eq_getElem?_getD, e2]; rfl
      rw [g1, g2]
      refine lt_rowKey S' (.tail _ m1) (.tail _ m2) ?_
      rw [hlt ki kj n1 n2, ← g3, ← g4]; exact hq
    · obtain ⟨r1, r2⟩ := all2_perm hv hp
      exact h Dr s' _ _ S' r1 r2 (by rw [List.pairwise_map]; exact ho)
theorem w_sortedPairs {D : Dag} {f : Int → Int} {L a : Addr} {b : List (Str × Value)} {vs : List Value} {ks : List Nat} {key : Nat → Int} {Q : Value → Shared → Prop} (S : St X g s ((L, NsHas b) :: l)) (hu : A.units + 4 < cLine) (hm : (a, ListIs vs) ∈ l) (hv : All2 (PairV D f l) vs ks) (h64 : vs.length < 64)
    (hlt : ∀ i j, i < D.N → j < D.N → pairLt (f (D.st i)) (D.row i) (f (D.st j)) (D.row j) = decide (key i < key j))
    (h : ∀ Dr s' vs' ks', St X g s' ((L, NsHas b) :: (Dr, ListIs vs') :: l) → All2 (PairV D f l) vs' ks' → ks'.Perm ks → ks'.Pairwise (fun i j => key i ≤ key j) → Q (.ref Dr) s') : wpAny X.M A (call (.builtin "sorted") [.ref a]) Q E s := by
  have hl := hv.length
  by_cases h2 : vs.length < 2
  · refine w_sortedShort S (.tail _ hm) h2 fun Dr s' S' => h Dr s' vs ks S' hv (.refl _) ?_
    match ks, hl with
    | [], _ => exact .nil
    | [k], _ => simp
    | _ :: _ :: _, hl => simp at hl; omega
  · refine w_sortedTups (T := .type "int") (key := fun i => key (ks.getD i 0)) S hm (by omega) h64 (fun s' S' => ?_) (by decide) (fun s' S' i j hi hj Q hq => ?_) fun Dr s' p S' hp ho => ?_
    · obtain ⟨fs, f1, f2, f3⟩ := firsts_pairs S' (hv.mono fun _ _ x => x.mono fun e he => .tail _ he)
      exact ⟨fs, f1, by omega, f3⟩
    · obtain ⟨ki, e1, r1⟩ := hv.get (i := i) (a := vs[i]) (by simp [hi])
      obtain ⟨kj, e2, r2⟩ := hv.get (i := j) (a := vs[j]) (by simp [hj])
      obtain ⟨pi, ai, q1, n1, p1, m1⟩ := r1
      obtain ⟨pj, aj, q2, n2, p2, m2⟩ := r2
      have g1 : vs.getD i Value.none = .ref pi := by rw [List.getD_eq_getElem?_getD, List.getElem?_eq_getElem hi]; exact q1
      have g2 : vs.getD j Value.none = .ref pj := by rw [List.getD_eq_getElem?_getD, List.getElem?_eq_getElem hj]; exact q2
      have g3 : ks.getD i 0 = ki := by rw [List.getD_eq_getElem?_getD, e1]; rfl
      have g4 : ks.getD j 0 = kj := by rw [List.getD_eq_getElem?_getD, e2]; rfl
      rw [g1, g2]
      refine lt_pairKey S' (show A.units + 1 + 1 + 1 < cLine by omega) (.tail _ p1) (.tail _ p2) (.tail _ m1) (.tail _ m2) ?_
      rw [hlt ki kj n1 n2, ← g3, ← g4]; exact hq
    · obtain ⟨r1, r2⟩ := all2_perm hv hp
      exact h Dr s' _ _ S' r1 r2 (by rw [List.pairwise_map]; exact ho)
end
end

end Mine

namespace Mine
local macro_rules | `(tactic| walk_at "m:mem") => `(tactic| first | exact List.Mem.head _ | assumption | (refine List.Mem.tail _ ?_; walk_at "m:mem") | (refine List.mem_append_right _ ?_; walk_at "m:mem"))
local macro_rules | `(tactic| walk_at "m:glob") => `(tactic| first | exact n_len _ | exact n_range _ | exact n_sorted _ | exact n_abs _ | exact n_list _ | exact n_enumerate _ | k_is)
local macro_rules | `(tactic| walk_at "m:boot") => `(tactic| first | exact PySem.boot_len | exact PyProof.Rows.boot_range | exact PyProof.Rows.boot_sorted | exact PyProof.Rows.boot_abs | exact PyProof.Rows.boot_list | exact PyProof.Rows.boot_enumerate)
local macro_rules | `(tactic| walk_at "m:name") => `(tactic| first
  | (refine' w_local (by assumption) ?mhb ?_; (case mhb => exact rfl))
  | (refine' w_cell (by assumption) ?mhc ?mhm ?_; (case mhc => exact rfl); (case mhm => walk_at "m:mem"))
  | (refine' w_builtin (by assumption) ?mhe ?mhv ?_; (case mhe => walk_at "m:glob"); (case mhv => walk_at "m:boot"))
  | (refine' w_global (by assumption) ?mhe ?_; (case mhe => walk_at "m:glob"))
  | (refine' w_free (by assumption) ?mhc ?mhm ?_; (case mhc => exact rfl); (case mhm => walk_at "m:mem")))
local macro_rules | `(tactic| walk_at "m:kp") => `(tactic| first | exact kp_builtin | exact kp_type | exact kp_K (by assumption) (by k_is))
local macro_rules | `(tactic| walk_at "m:step") => `(tactic| first
  | with_reducible refine wpAny_items_nil ?_
  | ((with_reducible refine gd0 ?_); refine wpAny_items_cons ?_)
  | with_reducible refine wpAny_execs_nil ?_
  | with_reducible refine wpAny_execs_cons ?_
  | ((with_reducible refine gd1 ?_); walk_at "m:name")
  | ((with_reducible refine w_int (by assumption) ?_); intro _ _ _)
  | with_reducible refine wpAny_BinOp ?_
  | with_reducible refine PyProof.Rows.Subscript_ ?_
  | ((with_reducible refine gd2 ?_); refine w_Call ?_)
  | ((with_reducible refine gd3 ?_); refine wpAny_Compare1 ?_)
  | ((with_reducible refine gd4 ?_); refine wpAny_isTrue_Compare1 ?_)
  | with_reducible refine wpAny_truthy_bool ?_
  | with_reducible refine PyProof.Rows.gt_int ?_
  | with_reducible refine PyProof.Rows.lt_int ?_
  | with_reducible refine PyProof.Rows.eq_int ?_
  | with_reducible refine PyProof.Rows.ne_int ?_
  | ((with_reducible refine w_add (by assumption) ?_); intro _ _ _)
  | ((with_reducible refine w_sub (by assumption) ?_); intro _ _ _)
  | ((with_reducible refine w_and (by assumption) ?_); intro _ _ _)
  | ((with_reducible refine w_or (by assumption) ?_); intro _ _ _)
  | ((with_reducible refine w_neg (by assumption) ?_); intro _ _ _)
  | with_reducible refine wpAny_If ?_
  | ((with_reducible refine gd5 ?_); refine wpAny_Assign_Name ?_)
  | with_reducible refine wpAny_Return_some ?_
  | with_reducible refine wpAny_IfExp ?_
  | with_reducible refine wpAny_UnaryOp ?_
  | with_reducible refine wpAny_isTrue_Not ?_
  | with_reducible refine wpAny_Constant_none ?_
  | with_reducible refine wpAny_Constant_bool ?_
  | with_reducible refine wpAny_Continue ?_
  | with_reducible refine wpAny_Break ?_
  | with_reducible refine wpAny_isTrue_BoolOp ?_
  | with_reducible refine wpAny_allTrue_And_cons ?_
  | with_reducible refine wpAny_allTrue_And_nil ?_
  | with_reducible refine wpAny_allTrue_Or_cons ?_
  | with_reducible refine wpAny_allTrue_Or_nil ?_
  | ((with_reducible refine gd6 ?_); (refine w_store (by assumption) ?_); intro _ _)
  | (with_reducible refine PyProof.Rows.Tuple_ ?_)
  | (with_reducible refine PyProof.Rows.List_ ?_)
  | (with_reducible refine' And.intro ?mkp ?_; (case mkp => walk_at "m:kp"))
  | (with_reducible refine w_range1 (by assumption) ?_; intro _ _ _)
  | (with_reducible refine w_range2 (by assumption) ?_; intro _ _ _)
  | dsimp only)
local macro_rules | `(tactic| walk_at "m:glob") => `(tactic| first | exact n_heappush _ | exact n_heappop _)
local macro_rules | `(tactic| walk_at "m:step") => `(tactic| first
  | ((with_reducible refine gd7 ?_); refine wpAny_Expr ?_)
  | ((with_reducible refine gd8 ?_); refine Attribute_any_ ?_)
  | ((with_reducible refine gd9 ?_); (refine w_getPq (by assumption) (by walk_at "m:mem") (by walk_at "m:mem") ?_); intro _ _)
  | ((with_reducible refine gd10 ?_); refine Assign_Tuple ?_)
  | ((with_reducible refine gd11 ?_); refine plainObj_wpAny_Assign_Attribute ?_))
local macro_rules | `(tactic| walk_at "m:step") => `(tactic| first
  | ((with_reducible refine gd12 ?_); refine wpAny_isTrue_value ?_)
  | ((with_reducible refine gd13 ?_); refine wpAny_isTrue_value ?_))
local macro_rules | `(tactic| walk_at "m:kp") => `(tactic| first | exact kp_K (by assumption) (by k_is) | exact St.kpMade (by assumption) (by walk_at "m:mem") | exact St.kpLam (by assumption) (by walk_at "m:mem"))
local macro_rules | `(tactic| walk_at "m:wl") => `(tactic| first
  | refine w_methodWL (by assumption) (by walk_at "m:mem") (by walk_at "m:mem") (wl_find_iter _) (wl_fn_iter _) (wl_get_iter _) (by intro t; rfl) ?_
  | refine w_methodWL (by assumption) (by walk_at "m:mem") (by walk_at "m:mem") (wl_find_add _) (wl_fn_add _) (wl_get_add _) (by intro t; rfl) ?_
  | refine w_methodWL (by assumption) (by walk_at "m:mem") (by walk_at "m:mem") (wl_find_get _) (wl_fn_get _) (wl_get_get _) (by intro t; rfl) ?_)
local macro_rules | `(tactic| walk_at "m:step") => `(tactic| first
  | ((with_reducible refine gd14 ?_); refine MethodCall_ ?_)
  | ((with_reducible refine gd15 ?_); refine w_callW ?_)
  | ((with_reducible refine gd16 ?_); walk_at "m:wl"))
local macro_rules | `(tactic| walk_at "m:step") => `(tactic| first
  | ((with_reducible refine gd17 ?_); refine w_Try ?_)
  | ((with_reducible refine gd18 ?_); refine w_getMethodGet (by assumption) (by walk_at "m:mem") ?_)
  | ((with_reducible refine gd18 ?_); refine w_getMethodAppend (by assumption) (by walk_at "m:mem") ?_)
  | ((with_reducible refine gd19 ?_); refine w_isNone ?_)
  | ((with_reducible refine gd20 ?_); refine wpAny_Assign_Subscript ?_)
  | ((with_reducible refine gd21 ?_); simp only [List.cons_append, List.nil_append])
  | ((with_reducible refine gd22 ?_); simp only [List.cons_append, List.nil_append]))
local macro_rules | `(tactic| walk_at "m:step") => `(tactic| first
  | ((with_reducible refine gd23 ?_); refine stop_of ?_)
  | ((with_reducible refine gd24 ?_); refine wpAny_pure ?_)
  | ((with_reducible refine gd25 ?_); refine w_part ?_)
  | ((with_reducible refine gd26 ?_); refine wpAny_Call_Name_kw ?_)
  | ((with_reducible refine gd27 ?_); refine w_callKw rfl ?_)
  | ((with_reducible refine gd28 ?_); refine kwAll_cons ?_)
  | ((with_reducible refine gd29 ?_); refine kwAll_nil ?_))

section
theorem primeLaw : (fun (_ : OpenLaw) (_ : Params → Frag) => True) PySem.Challenge.rw_ft5005_01 hd.heap_39 := by k_fill; trivial
def FnAt141 (P : Params) (body : List Stmt) (qual : Str) (scope : Scope) (cdv : Value) : Prop := ∃ oc od name params dV kV doc pm an ct osl, (hd.heap_39 P).lookup 141 = some ⟨oc, od, .func (fnOf name qual params body scope dV kV doc pm an cdv ct), osl⟩
theorem FnAt141.mk {P : Params} {oc od name qual params body scope dV kV doc pm an cdv ct osl} (h : (hd.heap_39 P).lookup 141 = some ⟨oc, od, .func (fnOf name qual params body scope dV kV doc pm an cdv ct), osl⟩) : FnAt141 P body qual scope cdv := ⟨_, _, _, _, _, _, _, _, _, _, _, h⟩
theorem fn141 (P : Params) {oc od name qual params body scope dV kV doc pm an cdv ct osl} (h : (hd.heap_39 P).lookup 141 = some ⟨oc, od, .func (fnOf name qual params body scope dV kV doc pm an cdv ct), osl⟩)
   {oc' od' name' qual' params' body' scope' dV' kV' doc' pm' an' cdv' ct' osl'} (h' : (hd.heap_39 P).lookup 141 = some ⟨oc', od', .func (fnOf name' qual' params' body' scope' dV' kV' doc' pm' an' cdv' ct'), osl'⟩) : body = body' ∧ qual = qual' ∧ scope = scope' ∧ cdv = cdv' := by
  rw [h] at h'; injection h' with h'; injection h' with _ _ h' _; injection h' with h'; unfold fnOf at h'; injection h' with _ h2 _ h4 h5 _ _ _ _ _ _ _ h6; injection h4 with h4; exact ⟨h4, h2, h5, h6⟩
abbrev lawCs (n : Addr) : List (Str × Addr) := [(Str.ofString "times", n + 1 + 1 + 1 + 1 + 1 + 1 + 1), (Str.ofString "some", n + 1 + 1 + 1 + 1 + 1 + 1), (Str.ofString "k", n + 1 + 1 + 1 + 1 + 1), (Str.ofString "pair", n + 1 + 1 + 1 + 1), (Str.ofString "told", n + 1 + 1 + 1), (Str.ofString "two", n + 1 + 1), (Str.ofString "one", n + 1), (Str.ofString "rows", n)]
/-- the law's cells -/
abbrev cellsE (L : Addr) (tm sm k pr td tw on rw : Option Value) (M : List Ent) : List Ent :=
  (L + 1 + 1 + 1 + 1 + 1 + 1 + 1 + 1, CellHas tm) :: (L + 1 + 1 + 1 + 1 + 1 + 1 + 1, CellHas sm) :: (L + 1 + 1 + 1 + 1 + 1 + 1, CellHas k) :: (L + 1 + 1 + 1 + 1 + 1, CellHas pr) :: (L + 1 + 1 + 1 + 1, CellHas td) :: (L + 1 + 1 + 1, CellHas tw) :: (L + 1 + 1, CellHas on) :: (L + 1, CellHas rw) :: M
structure LawCx where
  X : Cx
  n : Nat
  rows : List (List Int)
  w : List Nat
  par : List (List Nat)
  bel : List Nat
  N : Nat
  F : Facts n rows w par bel N
  T : Int
  hT : 1 ≤ T
  L : Addr
def LawCx.st (C : LawCx) (k : Nat) : Int := 1 + C.T * (wK C.w k : Nat)
def LawCx.D (C : LawCx) : Dag := ⟨C.N, fun k => C.rows.getD k [], C.st, ltK C.w⟩
def LawCx.P (C : LawCx) (m : Nat) : LPar := LP C.w C.par C.N m
theorem LawCx.st_lt (C : LawCx) {i j : Nat} : C.st i < C.st j ↔ wK C.w i < wK C.w j := by
  have := C.hT
  unfold LawCx.st
  constructor
  · intro h
    have h2 : C.T * (wK C.w i : Int) < C.T * (wK C.w j : Int) := by omega
    have := Int.lt_of_mul_lt_mul_left h2 (by omega)
    omega
  · intro h
    have : C.T * (wK C.w i : Int) < C.T * (wK C.w j : Int) := Int.mul_lt_mul_of_pos_left (by omega) (by omega)
    omega
theorem LawCx.st_eq (C : LawCx) {i j : Nat} : C.st i = C.st j ↔ wK C.w i = wK C.w j := by
  have h1 := C.st_lt (i := i) (j := j)
  have h2 := C.st_lt (i := j) (j := i)
  omega
theorem LawCx.st_pos (C : LawCx) (k : Nat) : 0 < C.st k := by
  have := C.hT
  unfold LawCx.st
  have : 0 ≤ C.T * (wK C.w k : Int) := Int.mul_nonneg (by omega) (by omega)
  omega
theorem LawCx.dOk (C : LawCx) : C.D.Ok := ⟨C.F.le, fun i j hi hj e => C.F.inj i j hi hj e⟩
theorem LawCx.ltOk (C : LawCx) : C.D.LtOk := by
  intro i j hi hj
  show pairLt (-(C.st i)) (C.rows.getD i []) (-(C.st j)) (C.rows.getD j []) = ltK C.w i j
  unfold pairLt ltK
  have h1 := C.st_lt (i := j) (j := i)
  have h2 := C.st_eq (i := i) (j := j)
  by_cases e : wK C.w i = wK C.w j
  · rw [if_pos (by rw [h2.mpr e]), C.F.lt i j hi hj, show Nat.beq (wK C.w i) (wK C.w j) = true from Nat.beq_eq.symm ▸ e]; rfl
  · have e2 : ¬ C.st i = C.st j := fun q => e (h2.mp q)
    have e3 : Nat.beq (wK C.w i) (wK C.w j) = false := by
      cases hq : Nat.beq (wK C.w i) (wK C.w j) with
      | false => rfl
      | true => exact absurd (Nat.eq_of_beq_eq_true hq) e
    rw [if_neg (by omega), e3]
    show decide (-(C.st i) < -(C.st j)) = Nat.blt (wK C.w j) (wK C.w i)
    rw [Bool.eq_iff_iff, decide_eq_true_eq]
    have : Nat.blt (wK C.w j) (wK C.w i) = true ↔ wK C.w j < wK C.w i := ⟨of_blt, fun h => Nat.ble_eq.mpr h⟩
    rw [this, ← h1]; omega
theorem LawCx.dP (C : LawCx) (m : Nat) : DOk C.D (C.P m) := ⟨C.dOk, C.ltOk, rfl, C.F.parN, C.F.parL⟩
theorem LawCx.skip0 (C : LawCx) : ∀ k, k < C.D.N → (C.P 0).skip k = decide (C.D.st k < 0) := by
  intro k _
  show Nat.blt (wK C.w k) 0 = decide (C.st k < 0)
  have := C.st_pos k
  rw [decide_eq_false (by omega)]
  rfl
theorem LawCx.skipK (C : LawCx) (i : Nat) : ∀ k, k < C.D.N → (C.P (wK C.w i)).skip k = decide (C.D.st k < C.D.st i) := by
  intro k _
  show Nat.blt (wK C.w k) (wK C.w i) = decide (C.st k < C.st i)
  rw [Bool.eq_iff_iff, decide_eq_true_eq, C.st_lt]
  exact ⟨of_blt, fun h => Nat.ble_eq.mpr h⟩
theorem LawCx.chk (C : LawCx) {i j : Nat} (hi : i < C.N) (hj : j < C.N) : (i = j → belK C.bel i j = true ∧ dueK C.w C.bel C.N i j = [i]) ∧ (i ≠ j → okMb C.w C.par C.bel C.N i j = true ∧ okFf C.w C.par C.bel C.N i j = true) := by
  have h := ball (C.F.chk i hi) j hj
  constructor
  · intro e
    subst e
    rw [if_pos rfl, Bool.and_eq_true] at h
    exact ⟨h.1, of_decide_eq_true h.2⟩
  · intro e
    rw [if_neg e, Bool.and_eq_true] at h
    exact h
/-- the rows and their times -/
structure LawCx.Base (C : LawCx) (M : List Ent) (Rd d : Addr) (rvs : List Value) (xs : Xs) : Prop where
  hR : (Rd, ListIs rvs) ∈ M
  rv : All2 (RowV C.D M) rvs (List.range C.N)
  hd : (d, DictIs C.X xs) ∈ M
  dF : DFl C.D M xs fun k => some (C.st k)
  d1 : (d == sysModules) = false
theorem LawCx.Base.mono {C : LawCx} {M M' : List Ent} {Rd d : Addr} {rvs : List Value} {xs : Xs} (B : C.Base M Rd d rvs xs) (h : M ⊆ M') : C.Base M' Rd d rvs xs :=
  ⟨h B.hR, B.rv.mono fun _ _ x => x.mono h, h B.hd, B.dF.sees (.of_sub h), B.d1⟩
local macro_rules | `(tactic| walk_at "m:upd") => `(tactic| first | exact UpdE.here | (refine UpdE.there ?_; walk_at "m:upd"))
end

section
theorem primeLaw2 : (fun (_ : OpenLaw) (_ : Params → Frag) => True) PySem.Challenge.rw_ft5005_01 hd.heap_39 := by k_fill; trivial
theorem rowsV {D : Dag} {l : List Ent} : ∀ {vs : List Value} {ks : List Nat}, RowsAre l vs (ks.map D.row) → (∀ k ∈ ks, k < D.N) → All2 (RowV D l) vs ks
  | _, [], h, _ => by cases h; exact .nil
  | _, k :: ks, h, hk => by
    cases h with
    | cons h t =>
      obtain ⟨a, rfl, m⟩ := h
      exact .cons ⟨a, rfl, hk k (.head _), m⟩ (rowsV t fun j hj => hk j (.tail _ hj))
theorem law_cbs (C : LawCx) {body : List Stmt} {qual : Str} {scope : Scope} {cdv : Value} (hb : FnAt141 C.X.w.params body qual scope cdv) {e6 e7 : List Expr} {pa6 pa7 : Arguments} {bd6 bd7 : Expr} {sc6 sc7 : Scope} {p6 p7 q6 q7 : Pos}
    (h6 : body[6]? = some (.Assign e6 (.Lambda pa6 bd6 sc6 p6) q6)) (h7 : body[7]? = some (.Assign e7 (.Lambda pa7 bd7 sc7 p7) q7)) {m : Nat} {l : List Ent} {Rd d fU fC cU cC : Addr} {rvs : List Value} {xs : Xs} (B : C.Base l Rd d rvs xs) {nU qU nC qC : Str} {pmU ctU pmC ctC : Value}
    (hU : (fU, Is (kla_obj nU qU pa6 bd6 sc6 [] pmU cU ctU)) ∈ l) (hcU : (cU, CodeIs qU) ∈ l) (hC : (fC, Is (kla_obj nC qC pa7 bd7 sc7 [(Str.ofString "times", C.L + 1 + 1 + 1 + 1 + 1 + 1 + 1 + 1)] pmC cC ctC)) ∈ l) (hcC : (cC, CodeIs qC) ∈ l)
    (hcell : (C.L + 1 + 1 + 1 + 1 + 1 + 1 + 1 + 1, CellHas (some (.ref d))) ∈ l) : Cbs C.X C.D (C.P m) l fU fC := by
  obtain ⟨oc, od, name, params, dV, kV, doc, pm, an, ct, osl, h141⟩ := hb
  obtain ⟨rfl, rfl, rfl, rfl⟩ := fn141 _ h141 (by k_is)
  cases h6; cases h7
  clear h141
  refine ⟨fun hl S => St.kpLam S (hl hU), fun hl S => St.kpLam S (hl hC), ?_, ?_⟩
  · intro A g s l' Lf bf a k E Q hl S R hm hk hQ
    refine w_lamMade S R (.tail _ (hl hU)) (.tail _ (hl hcU)) (binds := [(Str.ofString "name", .ref a)]) rfl (fun L' s1 S1 => ?_) (locs rfl) (by decide) rfl rfl rfl
    repeat' walk_at "m:step"
    refine c_parents S1 ((R.deeper (k := 39) _).le (by omega)) (.tail _ hm) (by rw [show C.D.row k = C.rows.getD k [] from rfl, C.F.len k hk]; have := C.F.nle; omega) fun p vs new s2 S2 hv => ?_
    refine hQ p vs new s2 (((S2.sub (List.sublist_cons_self _ _)).perm ((moveF0.cons _).trans (.swap _ _ _)))) ?_
    have e : parentsF (C.D.row k) = ((C.P m).par k).map C.D.row := C.F.parR k hk
    rw [e] at hv
    refine (rowsV hv (C.F.parN k hk)).mono fun _ _ hx => hx.sees ?_
    exact (Sees.of_sub moveF0.subset).trans (Sees.drop NoTup.ns (Sees.refl _))
  · intro A g s l' f0 a k E Q hl S R hm hk hQ
    refine w_lamMade S R (.tail _ (hl hC)) (.tail _ (hl hcC)) (binds := [(Str.ofString "name", .ref a)]) rfl (fun L' s1 S1 => ?_) (locs rfl) (by decide) rfl rfl rfl
    have hcell' := hl hcell
    repeat' walk_at "m:step"
    refine w_dictTail S1 (.tail _ (.tail _ (hl B.hd))) (B.dF.sees (.of_sub fun e he => .tail _ (.tail _ (hl he)))) (.tail _ (.tail _ hm)) hk (i := C.st k) rfl (R.deeper (k := 39) _).u1 fun s2 t S2 => ?_
    exact hQ s2 t (S2.sub (List.sublist_cons_self _ _))
section
variable {L : Addr} {f t : Ent} {tm sm k pr td tw on rw v : Option Value} {M : List Ent}
theorem updTimes : UpdE (L + 1 + 1 + 1 + 1 + 1 + 1 + 1 + 1) (CellHas tm) (CellHas v) (f :: t :: cellsE L tm sm k pr td tw on rw M) (f :: t :: cellsE L v sm k pr td tw on rw M) := .there (.there .here)
theorem updSome : UpdE (L + 1 + 1 + 1 + 1 + 1 + 1 + 1) (CellHas sm) (CellHas v) (f :: t :: cellsE L tm sm k pr td tw on rw M) (f :: t :: cellsE L tm v k pr td tw on rw M) := .there (.there (.there .here))
theorem updK : UpdE (L + 1 + 1 + 1 + 1 + 1 + 1) (CellHas k) (CellHas v) (f :: t :: cellsE L tm sm k pr td tw on rw M) (f :: t :: cellsE L tm sm v pr td tw on rw M) := .there (.there (.there (.there .here)))
theorem updPair : UpdE (L + 1 + 1 + 1 + 1 + 1) (CellHas pr) (CellHas v) (f :: t :: cellsE L tm sm k pr td tw on rw M) (f :: t :: cellsE L tm sm k v td tw on rw M) := .there (.there (.there (.there (.there .here))))
theorem updTold : UpdE (L + 1 + 1 + 1 + 1) (CellHas td) (CellHas v) (f :: t :: cellsE L tm sm k pr td tw on rw M) (f :: t :: cellsE L tm sm k pr v tw on rw M) := .there (.there (.there (.there (.there (.there .here)))))
theorem updTwo : UpdE (L + 1 + 1 + 1) (CellHas tw) (CellHas v) (f :: t :: cellsE L tm sm k pr td tw on rw M) (f :: t :: cellsE L tm sm k pr td v on rw M) := .there (.there (.there (.there (.there (.there (.there .here))))))
theorem updOne : UpdE (L + 1 + 1) (CellHas on) (CellHas v) (f :: t :: cellsE L tm sm k pr td tw on rw M) (f :: t :: cellsE L tm sm k pr td tw v rw M) := .there (.there (.there (.there (.there (.there (.there (.there .here)))))))
theorem updRows : UpdE (L + 1) (CellHas rw) (CellHas v) (f :: t :: cellsE L tm sm k pr td tw on rw M) (f :: t :: cellsE L tm sm k pr td tw on v M) := .there (.there (.there (.there (.there (.there (.there (.there (.there .here))))))))
/-- what the cells are no part of -/
theorem Sees.cells : Sees (cellsE L tm sm k pr td tw on rw M) M :=
  Sees.drop NoTup.cell (Sees.drop NoTup.cell (Sees.drop NoTup.cell (Sees.drop NoTup.cell (Sees.drop NoTup.cell (Sees.drop NoTup.cell (Sees.drop NoTup.cell (Sees.drop NoTup.cell (Sees.refl _))))))))
theorem upC : M ⊆ cellsE L tm sm k pr td tw on rw M := fun _ he => .tail _ (.tail _ (.tail _ (.tail _ (.tail _ (.tail _ (.tail _ (.tail _ he)))))))
theorem upFC : M ⊆ f :: t :: cellsE L tm sm k pr td tw on rw M := fun _ he => .tail _ (.tail _ (upC he))
/-- what a call has made goes behind the cells -/
theorem backC {p : Ent} {new : List Ent} : (f :: t :: p :: (new ++ cellsE L tm sm k pr td tw on rw M)).Perm (f :: t :: cellsE L tm sm k pr td tw on rw (p :: (new ++ M))) := by
  have h1 := (permNew (new := new) (es := cellsE L tm sm k pr td tw on rw []) (l := M)).cons p |>.cons t |>.cons f
  exact h1.trans (permIdx (es := [_, _, _, _, _, _, _, _, _, _, _]) [0, 1, 3, 4, 5, 6, 7, 8, 9, 10, 2] (by kernel_rfl))
theorem backC0 {new : List Ent} : (f :: t :: (new ++ cellsE L tm sm k pr td tw on rw M)).Perm (f :: t :: cellsE L tm sm k pr td tw on rw (new ++ M)) :=
  (permNew (new := new) (es := cellsE L tm sm k pr td tw on rw []) (l := M)).cons t |>.cons f
end
end

end Mine

namespace Mine
local macro_rules | `(tactic| walk_at "m:mem") => `(tactic| first | exact List.Mem.head _ | assumption | (refine List.Mem.tail _ ?_; walk_at "m:mem") | (refine List.mem_append_right _ ?_; walk_at "m:mem"))
local macro_rules | `(tactic| walk_at "m:glob") => `(tactic| first | exact n_len _ | exact n_range _ | exact n_sorted _ | exact n_abs _ | exact n_list _ | exact n_enumerate _ | k_is)
local macro_rules | `(tactic| walk_at "m:boot") => `(tactic| first | exact PySem.boot_len | exact PyProof.Rows.boot_range | exact PyProof.Rows.boot_sorted | exact PyProof.Rows.boot_abs | exact PyProof.Rows.boot_list | exact PyProof.Rows.boot_enumerate)
local macro_rules | `(tactic| walk_at "m:name") => `(tactic| first
  | (refine' w_local (by assumption) ?mhb ?_; (case mhb => exact rfl))
  | (refine' w_cell (by assumption) ?mhc ?mhm ?_; (case mhc => exact rfl); (case mhm => walk_at "m:mem"))
  | (refine' w_builtin (by assumption) ?mhe ?mhv ?_; (case mhe => walk_at "m:glob"); (case mhv => walk_at "m:boot"))
  | (refine' w_global (by assumption) ?mhe ?_; (case mhe => walk_at "m:glob"))
  | (refine' w_free (by assumption) ?mhc ?mhm ?_; (case mhc => exact rfl); (case mhm => walk_at "m:mem")))
local macro_rules | `(tactic| walk_at "m:kp") => `(tactic| first | exact kp_builtin | exact kp_type | exact kp_K (by assumption) (by k_is))
local macro_rules | `(tactic| walk_at "m:step") => `(tactic| first
  | with_reducible refine wpAny_items_nil ?_
  | ((with_reducible refine gd0 ?_); refine wpAny_items_cons ?_)
  | with_reducible refine wpAny_execs_nil ?_
  | with_reducible refine wpAny_execs_cons ?_
  | ((with_reducible refine gd1 ?_); walk_at "m:name")
  | ((with_reducible refine w_int (by assumption) ?_); intro _ _ _)
  | with_reducible refine wpAny_BinOp ?_
  | with_reducible refine PyProof.Rows.Subscript_ ?_
  | ((with_reducible refine gd2 ?_); refine w_Call ?_)
  | ((with_reducible refine gd3 ?_); refine wpAny_Compare1 ?_)
  | ((with_reducible refine gd4 ?_); refine wpAny_isTrue_Compare1 ?_)
  | with_reducible refine wpAny_truthy_bool ?_
  | with_reducible refine PyProof.Rows.gt_int ?_
  | with_reducible refine PyProof.Rows.lt_int ?_
  | with_reducible refine PyProof.Rows.eq_int ?_
  | with_reducible refine PyProof.Rows.ne_int ?_
  | ((with_reducible refine w_add (by assumption) ?_); intro _ _ _)
  | ((with_reducible refine w_sub (by assumption) ?_); intro _ _ _)
  | ((with_reducible refine w_and (by assumption) ?_); intro _ _ _)
  | ((with_reducible refine w_or (by assumption) ?_); intro _ _ _)
  | ((with_reducible refine w_neg (by assumption) ?_); intro _ _ _)
  | with_reducible refine wpAny_If ?_
  | ((with_reducible refine gd5 ?_); refine wpAny_Assign_Name ?_)
  | with_reducible refine wpAny_Return_some ?_
  | with_reducible refine wpAny_IfExp ?_
  | with_reducible refine wpAny_UnaryOp ?_
  | with_reducible refine wpAny_isTrue_Not ?_
  | with_reducible refine wpAny_Constant_none ?_
  | with_reducible refine wpAny_Constant_bool ?_
  | with_reducible refine wpAny_Continue ?_
  | with_reducible refine wpAny_Break ?_
  | with_reducible refine wpAny_isTrue_BoolOp ?_
  | with_reducible refine wpAny_allTrue_And_cons ?_
  | with_reducible refine wpAny_allTrue_And_nil ?_
  | with_reducible refine wpAny_allTrue_Or_cons ?_
  | with_reducible refine wpAny_allTrue_Or_nil ?_
  | ((with_reducible refine gd6 ?_); (refine w_store (by assumption) ?_); intro _ _)
  | (with_reducible refine PyProof.Rows.Tuple_ ?_)
  | (with_reducible refine PyProof.Rows.List_ ?_)
  | (with_reducible refine' And.intro ?mkp ?_; (case mkp => walk_at "m:kp"))
  | (with_reducible refine w_range1 (by assumption) ?_; intro _ _ _)
  | (with_reducible refine w_range2 (by assumption) ?_; intro _ _ _)
  | dsimp only)
local macro_rules | `(tactic| walk_at "m:glob") => `(tactic| first | exact n_heappush _ | exact n_heappop _)
local macro_rules | `(tactic| walk_at "m:step") => `(tactic| first
  | ((with_reducible refine gd7 ?_); refine wpAny_Expr ?_)
  | ((with_reducible refine gd8 ?_); refine Attribute_any_ ?_)
  | ((with_reducible refine gd9 ?_); (refine w_getPq (by assumption) (by walk_at "m:mem") (by walk_at "m:mem") ?_); intro _ _)
  | ((with_reducible refine gd10 ?_); refine Assign_Tuple ?_)
  | ((with_reducible refine gd11 ?_); refine plainObj_wpAny_Assign_Attribute ?_))
local macro_rules | `(tactic| walk_at "m:step") => `(tactic| first
  | ((with_reducible refine gd12 ?_); refine wpAny_isTrue_value ?_)
  | ((with_reducible refine gd13 ?_); refine wpAny_isTrue_value ?_))
local macro_rules | `(tactic| walk_at "m:kp") => `(tactic| first | exact kp_K (by assumption) (by k_is) | exact St.kpMade (by assumption) (by walk_at "m:mem") | exact St.kpLam (by assumption) (by walk_at "m:mem"))
local macro_rules | `(tactic| walk_at "m:wl") => `(tactic| first
  | refine w_methodWL (by assumption) (by walk_at "m:mem") (by walk_at "m:mem") (wl_find_iter _) (wl_fn_iter _) (wl_get_iter _) (by intro t; rfl) ?_
  | refine w_methodWL (by assumption) (by walk_at "m:mem") (by walk_at "m:mem") (wl_find_add _) (wl_fn_add _) (wl_get_add _) (by intro t; rfl) ?_
  | refine w_methodWL (by assumption) (by walk_at "m:mem") (by walk_at "m:mem") (wl_find_get _) (wl_fn_get _) (wl_get_get _) (by intro t; rfl) ?_)
local macro_rules | `(tactic| walk_at "m:step") => `(tactic| first
  | ((with_reducible refine gd14 ?_); refine MethodCall_ ?_)
  | ((with_reducible refine gd15 ?_); refine w_callW ?_)
  | ((with_reducible refine gd16 ?_); walk_at "m:wl"))
local macro_rules | `(tactic| walk_at "m:step") => `(tactic| first
  | ((with_reducible refine gd17 ?_); refine w_Try ?_)
  | ((with_reducible refine gd18 ?_); refine w_getMethodGet (by assumption) (by walk_at "m:mem") ?_)
  | ((with_reducible refine gd18 ?_); refine w_getMethodAppend (by assumption) (by walk_at "m:mem") ?_)
  | ((with_reducible refine gd19 ?_); refine w_isNone ?_)
  | ((with_reducible refine gd20 ?_); refine wpAny_Assign_Subscript ?_)
  | ((with_reducible refine gd21 ?_); simp only [List.cons_append, List.nil_append])
  | ((with_reducible refine gd22 ?_); simp only [List.cons_append, List.nil_append]))
local macro_rules | `(tactic| walk_at "m:step") => `(tactic| first
  | ((with_reducible refine gd23 ?_); refine stop_of ?_)
  | ((with_reducible refine gd24 ?_); refine wpAny_pure ?_)
  | ((with_reducible refine gd25 ?_); refine w_part ?_)
  | ((with_reducible refine gd26 ?_); refine wpAny_Call_Name_kw ?_)
  | ((with_reducible refine gd27 ?_); refine w_callKw rfl ?_)
  | ((with_reducible refine gd28 ?_); refine kwAll_cons ?_)
  | ((with_reducible refine gd29 ?_); refine kwAll_nil ?_))
local macro_rules | `(tactic| walk_at "m:upd") => `(tactic| first | exact UpdE.here | (refine UpdE.there ?_; walk_at "m:upd"))

section
section
variable {X : Cx} {g : Array GenState} {s : Shared} {l l' : List Ent} {A : Around} {E : Value → Shared → Prop} {env : Env}
theorem w_assignList {elts : List Expr} {x1 : Nat} {pos : Pos} {t : Addr} {items : Array Value} {Q : Unit → Shared → Prop} (hh : A.handled = none) (ht : s.heap.IsList t items)
    (hn : (assignEach elts env).length = items.size) (hstar : (assignEach elts env).findIdx? (·.1) = none)
    (h : ∀ h', Heap.ExtBut s.heap.objs.size s.heap h' → wpAny X.M A (assignInOrder ((assignEach elts env).map (·.2)) items.toList) Q E { s with heap := h' }) :
    wpAny X.M A (assign (.Tuple elts x1 pos) env (.ref t)) Q E s := by
  rw [arm_assign_Tuple]
  refine wpAny_bind (wpAny_standAt ?_)
  unfold unpack
  rw [hn, hstar]
  exact wpAny_bind (wpAny_holding (kun_itemsOf hh ht h))
/-- three targets, two cells and a local, from a list -/
theorem w_unpack3 {D : Addr} {v1 v2 v3 : Value} {x y z : Str} {px py pz pos : Pos} {k : Nat} {c1 c2 : Addr} {w1 w2 : Option Value} {l1 l2 : List Ent} {L : Addr} {b : List (Str × Value)} {Q : Unit → Shared → Prop} (S : St X g s l) (hh : A.handled = none) (hD : (D, ListIs [v1, v2, v3]) ∈ l)
    (hc1 : env.cells.lookup x = some c1) (U1 : UpdE c1 (CellHas w1) (CellHas (some v1)) l l1) (hc2 : env.cells.lookup y = some c2) (U2 : UpdE c2 (CellHas w2) (CellHas (some v2)) l1 ((L, NsHas b) :: l2)) (hL : env.locals = L)
    (h : ∀ s', St X g s' ((L, NsHas ((z, v3) :: b)) :: l2) → Q () s') (hk : env.scope.kind = .function) (hx : env.kindOf x = some .cell) (hy : env.kindOf y = some .cell) (hz : env.kindOf z = some .local)
    (hp : (env.scope.kind == .class || (env.scope.kind == .module && env.locals != env.globals)) = false) :
    wpAny X.M A (assign (.Tuple [.Name x px, .Name y py, .Name z pz] k pos) env (.ref D)) Q E s := by
  subst hL
  have hl : s.heap.IsList D #[v1, v2, v3] := S.isList hD
  refine w_assignList hh hl rfl rfl fun h' he => ?_
  have S1 : St X g { s with heap := h' } l := S.all (s' := { s with heap := h' }) fun c o e => he c o (Nat.ne_of_lt (Heap.lt_size e)) e
  generalize { s with heap := h' } = s1 at *
  show wpAny _ _ (do holding [v2, v3] (assign (.Name x px) env v1); holding [v3] (assign (.Name y py) env v2); holding [] (assign (.Name z pz) env v3); pure ()) _ _ _
  refine wpAny_bind (wpAny_holding (wpAny_assign_Name ?_))
  refine w_storeCell S1 hc1 U1 (fun s2 S2 => ?_) hk hx
  refine wpAny_bind (wpAny_holding (wpAny_assign_Name ?_))
  refine w_storeCell S2 hc2 U2 (fun s3 S3 => ?_) hk hy
  refine wpAny_bind (wpAny_holding (wpAny_assign_Name ?_))
  refine w_store S3 (fun s4 S4 => ?_) hz hp
  exact wpAny_pure (h _ S4)
end
end

section
theorem primeLaw0 : (fun (_ : OpenLaw) (_ : Params → Frag) => True) PySem.Challenge.rw_ft5005_01 hd.heap_39 := by k_fill; trivial
theorem ord3 : ordF 3 3 = rows3 := by decide +kernel
theorem ord4 : ordF 4 4 = rows4 := by decide +kernel
theorem ordLen3 : ∀ k, k ≤ 3 → (ordF 3 k).length ≤ 100 ∧ ∀ r ∈ ordF 3 k, r.length ≤ 10 := fun k hk => by
  have : decide ((ordF 3 k).length ≤ 100 ∧ ∀ r ∈ ordF 3 k, r.length ≤ 10) = true := ball (N := 4) (p := fun k => decide ((ordF 3 k).length ≤ 100 ∧ ∀ r ∈ ordF 3 k, r.length ≤ 10)) (by decide +kernel) k (by omega)
  exact of_decide_eq_true this
theorem ordLen4 : ∀ k, k ≤ 4 → (ordF 4 k).length ≤ 100 ∧ ∀ r ∈ ordF 4 k, r.length ≤ 10 := fun k hk => by
  have : decide ((ordF 4 k).length ≤ 100 ∧ ∀ r ∈ ordF 4 k, r.length ≤ 10) = true := ball (N := 5) (p := fun k => decide ((ordF 4 k).length ≤ 100 ∧ ∀ r ∈ ordF 4 k, r.length ≤ 10)) (by decide +kernel) k (by omega)
  exact of_decide_eq_true this
section
variable {X : Cx} {g : Array GenState} {s : Shared} {l l' : List Ent} {A : Around} {E : Value → Shared → Prop} {env : Env}
theorem w_if43 {c : Prop} [Decidable c] {p4 p3 : Pos} {k4 k3 : Nat} {Q : Value → Shared → Prop} (S : St X g s l) (h : ∀ (n : Nat) t s', (n = 3 ∨ n = 4) → St X g s' l → Q (.int (n : Nat) t) s') :
    if c then wpAny X.M A (eval (.Constant (.int 4) k4 p4) env) Q E s else wpAny X.M A (eval (.Constant (.int 3) k3 p3) env) Q E s := by
  split
  · exact w_int S fun s' t S' => h 4 t s' (.inr rfl) S'
  · exact w_int S fun s' t S' => h 3 t s' (.inl rfl) S'
theorem law_0 {body : List Stmt} {qual : Str} {scope : Scope} {cdv : Value} (hb : FnAt141 X.w.params body qual scope cdv) {s0 s1 s2 : Stmt} {rest : List Stmt} (h0 : body[0]? = some s0) (h1 : body[1]? = some s1) (h2 : body[2]? = some s2) (R : Rm A 100)
    {L sc : Addr} {ps : Array Value} {M : List Ent} {vs : List Value} {ns : List Int} (hs : X.hT.IsList sc vs.toArray) (hi : IntsAre vs ns) (h63 : ns.length ≤ 63)
    (S : St X g s ((L, NsHas [(Str.ofString "script", .ref sc)]) :: (87, Is (tabObj ps)) :: cellsE L none none none none none none none none M)) {Q : Flow → Shared → Prop}
    (h : ∀ {n rowsT w par bel N} (F : Facts n rowsT w par bel N) (hn : n = 3 ∨ n = 4) (fd Rd : Addr) us ms rvs t M' s', M ⊆ M' → (fd, ListIs us) ∈ M' → IntsAre us ms → ms.length = 5 → (Rd, ListIs rvs) ∈ M' → RowsAre M' rvs rowsT →
      St X g s' ((L, NsHas [(Str.ofString "n", .int (n : Nat) t), (Str.ofString "found", .ref fd)]) :: (87, Is (tabObj ps)) :: cellsE L none none none none none none none (some (.ref Rd)) M') →
      wpAny X.M A (execs rest (envX qual scope L 141 cdv (lawCs (L + 1)))) Q E s') :
    wpAny X.M A (execs (s0 :: s1 :: s2 :: rest) (envX qual scope L 141 cdv (lawCs (L + 1)))) Q E s := by
  obtain ⟨oc, od, name, params, dV, kV, doc, pm, an, ct, osl, h141⟩ := hb
  obtain ⟨rfl, rfl, rfl, rfl⟩ := fn141 _ h141 (by k_is)
  cases h0; cases h1; cases h2
  clear h141
  repeat' walk_at "m:step"
  rename St _ _ _ _ => S1
  refine c_numbers S1 (R.le (by omega)) hs hi h63 fun fd us ms s2 S2 hus hms => ?_
  clear S1
  repeat' walk_at "m:step"
  rename St _ _ _ _ => S3
  obtain ⟨t0, ht0⟩ := intsAre_at hus (i := 0) (by omega)
  refine w_itemList S3 (.tail _ (.head _)) (by decide) (by decide) ht0 ?_
  repeat' walk_at "m:step"
  rename St _ _ _ _ => S3b
  refine w_mod S3b (by decide) fun s4 t4 S4b => ?_
  repeat' walk_at "m:step"
  rename St _ _ _ _ => S4
  clear S3b S3 S2
  refine w_if43 S4 fun n t s5 hn S5 => ?_
  clear S4
  repeat' walk_at "m:step"
  rename St _ _ _ _ => S6
  refine c_orders S6 (R.le (by omega)) (by omega) (by rcases hn with rfl | rfl; exact ordLen3; exact ordLen4) fun Rd rvs new s7 S7 hrv => ?_
  clear S6 S5
  have S8 : St X g s7 ((L, NsHas [(Str.ofString "n", .int (n : Nat) t), (Str.ofString "found", .ref fd), (Str.ofString "script", .ref sc)]) :: (87, Is (tabObj ps)) :: cellsE L none none none none none none none none ((Rd, ListIs rvs) :: (fd, ListIs us) :: (new ++ M))) := by
    have := S7.perm ((((permNew (new := new) (es := (fd, ListIs us) :: (87, Is (tabObj ps)) :: cellsE L none none none none none none none none []) (l := M))).cons (Rd, ListIs rvs)).cons _)
    exact this.perm (permIdx (es := [_, _, _, _, _, _, _, _, _, _, _, _]) [0, 3, 4, 5, 6, 7, 8, 9, 10, 11, 1, 2] (by kernel_rfl))
  clear S7
  refine w_storeCell (c := L + 1) S8 rfl (.there (.there (.there (.there (.there (.there (.there (.there (.there .here))))))))) fun s9 S9 => ?_
  clear S8
  repeat' walk_at "m:step"
  have S10 := S9.wk (P' := NsHas [(Str.ofString "n", .int (n : Nat) t), (Str.ofString "found", .ref fd)]) .here (NsHas.wk fun p hp => by
    simp only [List.mem_cons, List.not_mem_nil, or_false] at hp
    rcases hp with rfl | rfl <;> rfl)
  have hMM : M ⊆ (Rd, ListIs rvs) :: (fd, ListIs us) :: (new ++ M) := fun e he => .tail _ (.tail _ (List.mem_append_right _ he))
  have hrv2 : RowsAre ((Rd, ListIs rvs) :: (fd, ListIs us) :: (new ++ M)) rvs (ordF n n) := hrv.sees ?_
  · rcases hn with rfl | rfl
    · exact h facts3 (.inl rfl) fd Rd us ms rvs t _ s9 hMM (.tail _ (.head _)) hus hms (.head _) (ord3 ▸ hrv2) S10
    · exact h facts4 (.inr rfl) fd Rd us ms rvs t _ s9 hMM (.tail _ (.head _)) hus hms (.head _) (ord4 ▸ hrv2) S10
  · refine (Sees.of_sub (permNew (new := new) (es := (fd, ListIs us) :: (87, Is (tabObj ps)) :: cellsE L none none none none none none none none []) (l := M)).subset).trans ?_
    exact (Sees.drop NoTup.list (Sees.drop NoTup.tab Sees.cells)).trans (Sees.of_sub up2)
end
end

section
theorem primeLaw1 : (fun (_ : OpenLaw) (_ : Params → Frag) => True) PySem.Challenge.rw_ft5005_01 hd.heap_39 := by k_fill; trivial
theorem DFl.congr {D : Dag} {l : List Ent} {xs : Xs} {v v' : Nat → Option Int} (h : DFl D l xs v) (e : ∀ k, k < D.N → v k = v' k) : DFl D l xs v' := ⟨h.keys, h.nd, h.dom, fun k hk => e k hk ▸ h.at_ k hk⟩
def absI (a : Int) : Int := if a < 0 then -a else a
theorem absI_nn (a : Int) : 0 ≤ absI a := by unfold absI; split <;> omega
section
variable {X : Cx} {g : Array GenState} {s : Shared} {l l' : List Ent} {A : Around} {E : Value → Shared → Prop} {env : Env}
theorem w_abs {a : Int} {t : Tok} {Q : Value → Shared → Prop} (S : St X g s l) (h : ∀ s' t, St X g s' l → Q (.int (absI a) t) s') : wpAny X.M A (call (.builtin "abs") [.int a t]) Q E s :=
  PyProof.Rows.call_abs_int fun u tk => h _ u (S.tok tk)
theorem law_1 (C : LawCx) {body : List Stmt} {qual : Str} {scope : Scope} {cdv : Value} (hb : FnAt141 C.X.w.params body qual scope cdv) {s3 s4 : Stmt} {rest : List Stmt} (h3 : body[3]? = some s3) (h4 : body[4]? = some s4) (R : Rm A 100)
    {fd Rd : Addr} {us : List Value} {ms : List Int} {rvs : List Value} {ps : Array Value} {b : List (Str × Value)} {M : List Ent} {nn : Int} {tn : Tok} (hbe : b = [(Str.ofString "n", .int nn tn), (Str.ofString "found", .ref fd)]) (hfd : (fd, ListIs us) ∈ M) (hus : IntsAre us ms) (hms : ms.length = 5) (hT : C.T = 1 + absI (ms.getD 4 0))
    (hR : (Rd, ListIs rvs) ∈ M) (hrv : RowsAre M rvs C.rows)
    (S : St C.X g s ((C.L, NsHas b) :: (87, Is (tabObj ps)) :: cellsE C.L none none none none none none none (some (.ref Rd)) M)) {Q : Flow → Shared → Prop}
    (h : ∀ d xs s', C.Base ((d, DictIs C.X xs) :: M) Rd d rvs xs →
      St C.X g s' ((C.L, NsHas b) :: (87, Is (tabObj ps)) :: cellsE C.L (some (.ref d)) none none none none none none (some (.ref Rd)) ((d, DictIs C.X xs) :: M)) → wpAny C.X.M A (execs rest (envX qual scope C.L 141 cdv (lawCs (C.L + 1)))) Q E s') :
    wpAny C.X.M A (execs (s3 :: s4 :: rest) (envX qual scope C.L 141 cdv (lawCs (C.L + 1)))) Q E s := by
  obtain ⟨oc, od, name, params, dV, kV, doc, pm, an, ct, osl, h141⟩ := hb
  obtain ⟨rfl, rfl, rfl, rfl⟩ := fn141 _ h141 (by k_is)
  cases h3; cases h4
  clear h141
  have hlenN : rvs.length = C.N := hrv.length.trans C.F.hN.symm
  have hv : All2 (RowV C.D M) rvs (List.range C.N) := by
    refine All2.of_get (by simp [hlenN]) fun i a k hk ha => ?_
    obtain ⟨p, r, rfl, hr, hp⟩ := hrv.get ha
    obtain ⟨hi, rfl⟩ := List.getElem?_eq_some_iff.mp hk
    simp at hi
    rw [List.getElem_range]
    refine ⟨p, rfl, hi, ?_⟩
    have e : C.D.row i = r := by show C.rows.getD i [] = r; rw [List.getD_eq_getElem?_getD, hr]; rfl
    rw [e]; exact hp
  repeat' walk_at "m:step"
  refine w_newDict S fun d s1 hd1 S1 => ?_
  have S2 := ((S1.perm (permIdx (es := [_, _, _]) [0, 2, 1] (by kernel_rfl))).perm (backC (new := [])))
  clear S1
  refine w_storeCell (c := C.L + 1 + 1 + 1 + 1 + 1 + 1 + 1 + 1) S2 rfl updTimes fun s2 S3 => ?_
  clear S2
  repeat' walk_at "m:step"
  refine w_For ?_
  repeat' walk_at "m:step"
  refine w_iterList (f := (C.L, NsHas [])) S3 (by walk_at "m:mem") fun I s3 S4 => ?_
  clear S3
  refine w_forLoop (It.list (A := A) R.hh I Rd rvs) (fun i b' l' => b' = b ∧ ∃ xs, l' = (87, Is (tabObj ps)) :: cellsE C.L (some (.ref d)) none none none none none none (some (.ref Rd)) ((d, DictIs C.X xs) :: M) ∧ DFl C.D M xs (fun k => if k < i then some (C.st k) else none)) ?_ S4 ⟨rfl, [], rfl, (DFl.nil C.D M).congr fun k _ => by simp⟩ ?_ ?_
  · rintro i b' l' ⟨rfl, xs, rfl, _⟩ p hp
    rcases List.mem_singleton.mp hp with rfl
    exact .tail _ (upC (.tail _ hR))
  · rintro i v b' l' s5 hi hvi ⟨rfl, xs, rfl, hF⟩ S5
    clear S4
    obtain ⟨k, hk, pa, rfl, hkN, hpa⟩ := hv.get hvi
    have hki : k = i := by
      obtain ⟨_, e⟩ := List.getElem?_eq_some_iff.mp hk
      rw [List.getElem_range] at e; exact e.symm
    subst hki
    have hbf' : ((Str.ofString "row", Value.ref pa) :: b').lookup (Str.ofString "found") = some (.ref fd) := by
      subst hbe; rfl
    obtain ⟨t4, ht4⟩ := intsAre_at hus (i := 4) (by omega)
    have up11 : M ⊆ (C.L, NsHas ((Str.ofString "row", Value.ref pa) :: b')) :: (I, LIterIs Rd (k + 1)) :: (87, Is (tabObj ps)) :: cellsE C.L (some (.ref d)) none none none none none none (some (.ref Rd)) ((d, DictIs C.X xs) :: M) := fun e he => .tail _ (upFC (.tail _ he))
    repeat' walk_at "m:step"
    refine w_local (by assumption) hbf' ?_
    repeat' walk_at "m:step"
    rename St _ _ _ _ => S6
    clear S5
    refine w_itemList S6 (up11 hfd) (by decide) (by decide) ht4 ?_
    repeat' walk_at "m:step"
    refine w_abs S6 fun s7 t7 S7 => ?_
    clear S6
    repeat' walk_at "m:step"
    rename St _ _ _ _ => S8
    clear S7
    have hwr : wrongF (C.D.row k) = wK C.w k := C.F.wr k hkN
    refine c_wrong (r := C.D.row k) S8 (R.le (by omega)) (up11 hpa) (by rw [show C.D.row k = C.rows.getD k [] from rfl, C.F.len k hkN]; have := C.F.nle; omega) fun s9 t9 S9 => ?_
    rw [hwr]
    clear S8
    have hw6 := C.F.wle k hkN
    repeat' walk_at "m:step"
    refine w_mul S9 (IntMulOk.of_right (intBits_le_64 (by omega) (by omega))) fun s10 t10 S10 => ?_
    clear S9
    repeat' walk_at "m:step"
    rename St _ _ _ _ => S11
    clear S10
    rw [← hT]
    refine w_dictSetU (i := C.st k) C.dOk S11 (hF.sees (.of_sub up11)) (up11 hpa) hkN R.u1 (.there (.there (.there (.there (.there (.there (.there (.there (.there (.there (.there .here))))))))))) fun s12 S12 _ => ?_
    clear S11
    repeat' walk_at "m:step"
    refine ⟨_, _, ⟨rfl, _, rfl, (hF.stored C.dOk hkN hpa (i := C.st k)).congr fun j hj => ?_⟩, S12.wk .here (NsHas.wk ?_)⟩
    · unfold setV
      by_cases e : j = k
      · subst e; simp
      · by_cases e2 : j < k
        · simp [e, e2, Nat.lt_succ_of_lt e2]
        · have : ¬ j < k + 1 := by omega
          simp [e, e2, this]
    · subst hbe
      intro p hp
      simp only [List.mem_cons, List.not_mem_nil, or_false] at hp
      rcases hp with rfl | rfl <;> rfl
  · rintro b' l' s5 ⟨rfl, xs, rfl, hF⟩ S5
    dsimp only
    refine h d xs s5 ⟨.tail _ hR, hv.mono fun _ _ hx => hx.mono up1, .head _, (hF.congr fun k hk => ?_).sees (.of_sub up1), hd1⟩ S5
    rw [if_pos (by rw [hlenN]; exact hk)]
end
end

section
theorem primeLaw2b : (fun (_ : OpenLaw) (_ : Params → Frag) => True) PySem.Challenge.rw_ft5005_01 hd.heap_39 := by k_fill; trivial
section
variable {X : Cx} {g : Array GenState} {s : Shared} {l l' : List Ent} {A : Around} {E : Value → Shared → Prop} {env : Env}
theorem law_2 (C : LawCx) {body : List Stmt} {qual : Str} {scope : Scope} {cdv : Value} (hb : FnAt141 C.X.w.params body qual scope cdv) {s5 : Stmt} {rest : List Stmt} (h5 : body[5]? = some s5) (R : Rm A 100)
    {fd Rd d : Addr} {us : List Value} {ms : List Int} {rvs : List Value} {xs : Xs} {ps : Array Value} {M : List Ent} {nn : Int} {tn : Tok} (hfd : (fd, ListIs us) ∈ M) (hus : IntsAre us ms) (hms : ms.length = 5) (B : C.Base M Rd d rvs xs)
    (S : St C.X g s ((C.L, NsHas [(Str.ofString "n", .int nn tn), (Str.ofString "found", .ref fd)]) :: (87, Is (tabObj ps)) :: cellsE C.L (some (.ref d)) none none none none none none (some (.ref Rd)) M)) {Q : Flow → Shared → Prop}
    (h : ∀ a1 a2 a3 i1 i2 i3 s', RowV C.D M (.ref a1) i1 → RowV C.D M (.ref a2) i2 → RowV C.D M (.ref a3) i3 →
      St C.X g s' ((C.L, NsHas [(Str.ofString "three", .ref a3), (Str.ofString "n", .int nn tn)]) :: (87, Is (tabObj ps)) :: cellsE C.L (some (.ref d)) none none none none (some (.ref a2)) (some (.ref a1)) (some (.ref Rd)) M) → wpAny C.X.M A (execs rest (envX qual scope C.L 141 cdv (lawCs (C.L + 1)))) Q E s') :
    wpAny C.X.M A (execs (s5 :: rest) (envX qual scope C.L 141 cdv (lawCs (C.L + 1)))) Q E s := by
  obtain ⟨oc, od, name, params, dV, kV, doc, pm, an, ct, osl, h141⟩ := hb
  obtain ⟨rfl, rfl, rfl, rfl⟩ := fn141 _ h141 (by k_is)
  cases h5
  clear h141
  have hlenN : rvs.length = C.N := by rw [B.rv.length]; simp
  have hN := C.F.pos
  have hN24 := C.F.le
  have hul := hus.length
  repeat' walk_at "m:step"
  refine w_ListComp (cl := [(Str.ofString "rows", C.L + 1)]) (by rfl) ?_
  repeat' walk_at "m:step"
  unfold Stop
  refine w_cutList ?_
  repeat' walk_at "m:step"
  rename St _ _ _ _ => S1
  clear S
  refine ⟨fd, us, some 1, some 4, _, _, _, rfl, S1, S1.isList (upFC hfd), by rw [sizeLine_eq]; omega, .int _ _, .int _ _, fun c1 s2 S2 => ?_⟩
  have hcut : IntsAre (kms_pick us (some 1) (some 4)) ((ms.drop (kms_lo (some 1) us.length)).take (kms_hi (some 4) us.length - kms_lo (some 1) us.length)) := (hus.drop _).take _
  have hcl : (kms_pick us (some 1) (some 4)).length = 3 := by
    unfold kms_pick
    rw [List.length_take, List.length_drop]
    simp [kms_lo, kms_hi]; omega
  generalize kms_pick us (some 1) (some 4) = cv at *
  generalize (ms.drop (kms_lo (some 1) us.length)).take (kms_hi (some 4) us.length - kms_lo (some 1) us.length) = cn at *
  clear S1
  repeat' walk_at "m:step"
  refine w_iterList (f := (C.L, NsHas [])) S2 (.tail _ (.head _)) fun I s3 S3 => ?_
  refine w_compGo (It.list (A := A) R.hh I c1 cv) S3 fun Cc Dr s4 S4 => ?_
  clear S3 S2
  refine w_compLoop (It.list (A := A) R.hh I c1 cv) (fun i ys l' => l' = _ ∧ (∃ ks, All2 (RowV C.D M) ys ks) ∧ ys.length = i ∧ i ≤ 3) ?_ S4 ⟨rfl, ⟨[], .nil⟩, rfl, by omega⟩ ?_ ?_ rfl rfl
  · rintro i ys l' ⟨rfl, _, h3, h4⟩
    refine ⟨fun p hp => ?_, by rw [sizeLine_eq]; omega⟩
    rcases List.mem_singleton.mp hp with rfl
    exact .tail _ (.head _)
  · rintro i v ys l' s5 hii hvi ⟨rfl, ⟨ks, hys⟩, hyl, h3⟩ S5
    obtain ⟨k, u, rfl⟩ := ints_mem hcut hvi
    clear S4
    refine wpAny_tests_nil ?_
    rw [if_pos rfl]
    repeat' walk_at "m:step"
    have hR := B.hR
    refine w_lenList S5 (by walk_at "m:mem") (by omega) fun s6 t6 S6 => ?_
    clear S5
    rw [hlenN]
    repeat' walk_at "m:step"
    refine w_mod S6 (by omega) fun s7 t7 S7 => ?_
    clear S6
    rw [Int.fmod_eq_emod_of_nonneg k (by omega)]
    have e1 := Int.emod_nonneg k (b := (C.N : Int)) (by omega)
    have e2 := Int.emod_lt_of_pos k (b := (C.N : Int)) (by omega)
    generalize k % (C.N : Int) = j at *
    have hj : j.toNat < C.N := by omega
    obtain ⟨v, hv1, hv2⟩ := B.rv.get' (i := j.toNat) (b := j.toNat) (by simp [hj])
    refine w_itemList S7 (by walk_at "m:mem") e1 (by omega) hv1 ?_
    refine ⟨_, ⟨rfl, ⟨ks ++ [j.toNat], hys.append (.cons hv2 .nil)⟩, by rw [List.length_append, hyl]; rfl, by omega⟩, S7.wk .here (NsHas.wk fun p hp => (nomatch hp))⟩
  · rintro ys l' s5 ⟨rfl, ⟨ks, hys⟩, hyl, _⟩ S5
    clear S4
    refine compPost_none S5 fun s6 S6 => ?_
    clear S5
    rw [hcl] at hyl
    have hkl := hys.length
    obtain ⟨v1, v2, v3, rfl⟩ : ∃ v1 v2 v3, ys = [v1, v2, v3] := by
      match ys, hyl with
      | [v1, v2, v3], _ => exact ⟨v1, v2, v3, rfl⟩
    obtain ⟨i1, i2, i3, rfl⟩ : ∃ i1 i2 i3, ks = [i1, i2, i3] := by
      match ks, hkl with
      | [i1, i2, i3], _ => exact ⟨i1, i2, i3, rfl⟩
    cases hys with
    | cons r1 hys => cases hys with
      | cons r2 hys => cases hys with
        | cons r3 hys =>
          obtain ⟨a1, rfl, q1⟩ := r1
          obtain ⟨a2, rfl, q2⟩ := r2
          obtain ⟨a3, rfl, q3⟩ := r3
          have S7 : St C.X g s6 ((C.L, NsHas [(Str.ofString "n", Value.int nn tn), (Str.ofString "found", Value.ref fd)]) :: (87, Is (tabObj ps)) :: cellsE C.L (some (Value.ref d)) none none none none none none (some (Value.ref Rd)) ((Dr, ListIs [Value.ref a1, .ref a2, .ref a3]) :: M)) :=
            ((S6.sub (((List.sublist_cons_self _ _).cons_cons _).cons_cons _)).perm (permIdx (es := [_, _, _]) [1, 2, 0] (by kernel_rfl))).perm (backC (new := []))
          clear S6
          refine w_unpack3 S7 R.hh (upFC (.head _)) (c1 := C.L + 1 + 1) (by rfl) updOne (c2 := C.L + 1 + 1 + 1) (by rfl) updTwo rfl (fun s8 S8 => ?_) rfl (by rfl) (by rfl) (by rfl) (by rfl)
          clear S7
          repeat' walk_at "m:step"
          refine h a1 a2 a3 i1 i2 i3 s8 ⟨a1, rfl, q1⟩ ⟨a2, rfl, q2⟩ ⟨a3, rfl, q3⟩ ?_
          have S9 : St C.X g s8 ((C.L, NsHas [(Str.ofString "three", .ref a3), (Str.ofString "n", .int nn tn)]) :: (87, Is (tabObj ps)) :: cellsE C.L (some (.ref d)) none none none none (some (.ref a2)) (some (.ref a1)) (some (.ref Rd)) ((Dr, ListIs [Value.ref a1, .ref a2, .ref a3]) :: M)) := S8.wk .here (NsHas.wk fun p hp => by
            simp only [List.mem_cons, List.not_mem_nil, or_false] at hp
            rcases hp with rfl | rfl <;> rfl)
          exact S9.sub <| ((((((((((List.sublist_cons_self _ _).cons_cons _).cons_cons _).cons_cons _).cons_cons _).cons_cons _).cons_cons _).cons_cons _).cons_cons _).cons_cons _).cons_cons _
end
end

section
theorem primeLaw3 : (fun (_ : OpenLaw) (_ : Params → Frag) => True) PySem.Challenge.rw_ft5005_01 hd.heap_39 := by k_fill; trivial
def lawPq : List (Pos × Str) := [(⟨170, 9, 170, 40⟩, Str.ofString "law" ++ Str.ofString ".<locals>." ++ Str.ofString "<lambda>"), (⟨171, 12, 171, 36⟩, Str.ofString "law" ++ Str.ofString ".<locals>." ++ Str.ofString "<lambda>")]
theorem list_ne_tab {vs : List Value} {q : Array Value} : ListIs vs ≠ Is (tabObj q) := by
  intro e
  have : ListIs vs { cls := .type "list", data := .seq vs.toArray 0 } := ⟨0, rfl⟩
  rw [e] at this
  cases this
theorem dict_ne_tab {X : Cx} {xs : Xs} {q : Array Value} : DictIs X xs ≠ Is (tabObj q) := by
  intro e
  have : DictIs X xs { cls := .type "dict", data := .dict (xs.map (entryOfKey (tupleKind (intKind Pg X.w)))).toArray 0 } := ⟨0, rfl⟩
  rw [e] at this
  cases this
theorem LawCx.Base.move {C : LawCx} {M M' : List Ent} {Rd d a : Addr} {q : Array Value} {rvs : List Value} {xs : Xs} (B : C.Base M Rd d rvs xs) (h : ∀ e ∈ M, e = (a, Is (tabObj q)) ∨ e ∈ M') (hs : Sees M M') : C.Base M' Rd d rvs xs where
  hR := (h _ B.hR).resolve_left fun e => list_ne_tab (Prod.mk.inj e).2
  rv := B.rv.mono fun _ _ x => x.sees hs
  hd := (h _ B.hd).resolve_left fun e => dict_ne_tab (Prod.mk.inj e).2
  dF := B.dF.sees hs
  d1 := B.d1
theorem law3_perm {f0 t c u z : Ent} {new new2 Z : List Ent} {L : Addr} {tm sm k pr td tw on rw : Option Value} :
    (f0 :: t :: c :: (new2 ++ u :: (new ++ z :: cellsE L tm sm k pr td tw on rw Z))).Perm (f0 :: z :: cellsE L tm sm k pr td tw on rw (t :: c :: (new2 ++ u :: (new ++ Z)))) := by
  have h1 := (permNew (new := new2 ++ u :: new) (es := z :: cellsE L tm sm k pr td tw on rw []) (l := Z)).cons c |>.cons t |>.cons f0
  simp only [List.append_assoc, List.cons_append, List.nil_append] at h1
  exact h1.trans (permIdx (es := [_, _, _, _, _, _, _, _, _, _, _, _]) [0, 3, 4, 5, 6, 7, 8, 9, 10, 11, 1, 2] (by kernel_rfl))
section
variable {X : Cx} {g : Array GenState} {s : Shared} {l l' : List Ent} {A : Around} {E : Value → Shared → Prop} {env : Env}
theorem law_3 (C : LawCx) {body : List Stmt} {qual : Str} {scope : Scope} {cdv : Value} (hb : FnAt141 C.X.w.params body qual scope cdv) {s6 s7 : Stmt} {rest : List Stmt} (h6 : body[6]? = some s6) (h7 : body[7]? = some s7) (R : Rm A 100)
    {Rd d a1 a2 a3 : Addr} {rvs : List Value} {xs : Xs} {ps : Array Value} {M : List Ent} {nn : Int} {tn : Tok} (B : C.Base M Rd d rvs xs) (h138 : (138, Is (tabObj #[])) ∈ M)
    (S : St C.X g s ((C.L, NsHas [(Str.ofString "three", .ref a3), (Str.ofString "n", .int nn tn)]) :: (87, Is (tabObj ps)) :: cellsE C.L (some (.ref d)) none none none none (some (.ref a2)) (some (.ref a1)) (some (.ref Rd)) M)) {Q : Flow → Shared → Prop}
    (h : ∀ fU fC M' s', C.Base M' Rd d rvs xs → Sees M M' → (∀ m l, M' ⊆ l → (C.L + 1 + 1 + 1 + 1 + 1 + 1 + 1 + 1, CellHas (some (.ref d))) ∈ l → Cbs C.X C.D (C.P m) l fU fC) → (∃ ps', (138, Is (tabObj ps')) ∈ M') →
      St C.X g s' ((C.L, NsHas [(Str.ofString "clock", .ref fC), (Str.ofString "up", .ref fU), (Str.ofString "three", .ref a3), (Str.ofString "n", .int nn tn)]) :: (87, Is (tabObj ps)) :: cellsE C.L (some (.ref d)) none none none none (some (.ref a2)) (some (.ref a1)) (some (.ref Rd)) M') → wpAny C.X.M A (execs rest (envX qual scope C.L 141 cdv (lawCs (C.L + 1)))) Q E s') :
    wpAny C.X.M A (execs (s6 :: s7 :: rest) (envX qual scope C.L 141 cdv (lawCs (C.L + 1)))) Q E s := by
  have hb' := hb
  obtain ⟨oc, od, name, params, dV, kV, doc, pm, an, ct, osl, h141⟩ := hb
  obtain ⟨rfl, rfl, rfl, rfl⟩ := fn141 _ h141 (by k_is)
  have h6' := h6
  have h7' := h7
  cases h6; cases h7
  clear h141
  obtain ⟨x, y, rfl⟩ := List.append_of_mem h138
  have S1 : St C.X g s ((C.L, NsHas [(Str.ofString "three", .ref a3), (Str.ofString "n", .int nn tn)]) :: (138, Is (tabObj #[])) :: (87, Is (tabObj ps)) :: cellsE C.L (some (.ref d)) none none none none (some (.ref a2)) (some (.ref a1)) (some (.ref Rd)) (x ++ y)) := by
    refine S.perm (List.Perm.cons _ ?_)
    exact List.perm_middle (l₁ := (87, Is (tabObj ps)) :: cellsE C.L (some (.ref d)) none none none none (some (.ref a2)) (some (.ref a1)) (some (.ref Rd)) x)
  clear S
  repeat' walk_at "m:step"
  refine kla_eval rfl ?_
  refine w_lamFn (pq := lawPq) (l₀ := []) (c := 140) (P := 138) (clos := []) S1 C.X.c138 TabOk.nil (.head _) ?_ rfl rfl rfl fun fU cU ctU ps2 new s2 S2 T2 hcU => ?_
  · intro q hq
    simp only [lawPq, List.mem_cons, List.not_mem_nil, or_false] at hq
    rcases hq with rfl | rfl
    · intro _; rfl
    · intro e; exact absurd e (by decide)
  clear S1
  repeat' walk_at "m:step"
  rename St _ _ _ _ => S3
  refine kla_eval rfl ?_
  refine w_lamFn (pq := lawPq) (l₀ := new ++ []) (c := 140) (P := 138) (clos := [(Str.ofString "times", C.L + 1 + 1 + 1 + 1 + 1 + 1 + 1 + 1)]) S3 C.X.c138 T2 (.tail _ (.head _)) ?_ (by rfl) rfl rfl fun fC cC ctC ps3 new2 s4 S4 T4 hcC => ?_
  · intro q hq
    simp only [lawPq, List.mem_cons, List.not_mem_nil, or_false] at hq
    rcases hq with rfl | rfl
    · intro e; exact absurd e (by decide)
    · intro _; rfl
  clear S3 S2
  repeat' walk_at "m:step"
  rename St _ _ _ _ => S5
  have S6 := S5.perm law3_perm
  clear S5 S4
  have hM : ∀ e ∈ x ++ (138, Is (tabObj #[])) :: y, e = (138, Is (tabObj #[])) ∨ e ∈ x ++ y := by
    intro e he
    rcases List.mem_append.mp he with he | he
    · exact .inr (List.mem_append_left _ he)
    · rcases List.mem_cons.mp he with he | he
      · exact .inl he
      · exact .inr (List.mem_append_right _ he)
  have hs1 : Sees (x ++ (138, Is (tabObj #[])) :: y) (x ++ y) := (Sees.of_sub List.perm_middle.subset).trans (Sees.drop NoTup.tab (Sees.refl _))
  have hs2 : ∀ {p q u : Ent} {m1 m2 : List Ent}, x ++ y ⊆ p :: q :: (m1 ++ u :: (m2 ++ (x ++ y))) := fun {p q u m1 m2} e he => .tail _ (.tail _ (List.mem_append_right _ (.tail _ (List.mem_append_right _ he))))
  have hBm : ∀ {M' : List Ent}, x ++ y ⊆ M' → C.Base M' Rd d rvs xs := fun hh => B.move (fun e he => (hM e he).imp id fun h => hh h) (hs1.trans (Sees.of_sub hh))
  refine h fU fC _ _ (hBm hs2) (hs1.trans (Sees.of_sub hs2)) ?_ ⟨ps3, .head _⟩ S6
  intro m l hl hcell
  rw [List.append_nil] at hcU hcC
  refine law_cbs C hb' h6' h7' (hBm fun e he => hl (hs2 he)) (hl (.tail _ (.tail _ (List.mem_append_right _ (.head _))))) (hl (.tail _ (.tail _ (List.mem_append_right _ (.tail _ (List.mem_append_left _ hcU)))))) (hl (.tail _ (.head _))) (hl (.tail _ (.tail _ ?_))) hcell
  rcases List.mem_append.mp hcC with h1 | h1
  · exact List.mem_append_left _ h1
  · exact List.mem_append_right _ (.tail _ (List.mem_append_left _ h1))
end
end

section
theorem primeLaw3m : (fun (_ : OpenLaw) (_ : Params → Frag) => True) PySem.Challenge.rw_ft5005_01 hd.heap_39 := by k_fill; trivial
theorem NoCode.cell {v : Option Value} : NoCode (CellHas v) := by rintro q t h; simp [CellHas] at h
theorem TabOk.cells {L : Addr} {tm sm k pr td tw on rw : Option Value} {M new : List Ent} {ps : Array Value} {pq : List (Pos × Str)} (T : TabOk (new ++ cellsE L tm sm k pr td tw on rw M) ps pq) : TabOk (new ++ M) ps pq :=
  (((((((((T.sub (permNew (new := new) (es := cellsE L tm sm k pr td tw on rw []) (l := M)).subset).drop NoCode.cell).drop NoCode.cell).drop NoCode.cell).drop NoCode.cell).drop NoCode.cell).drop NoCode.cell).drop NoCode.cell).drop NoCode.cell)
theorem rowV_new {D : Dag} {L : Addr} {tm sm k pr td tw on rw : Option Value} {M new : List Ent} {vs : List Value} {ks : List Nat} (h : All2 (RowV D (new ++ cellsE L tm sm k pr td tw on rw M)) vs ks) : All2 (RowV D (new ++ M)) vs ks :=
  h.mono fun _ _ x => x.sees ((Sees.of_sub (permNew (new := new) (es := cellsE L tm sm k pr td tw on rw []) (l := M)).subset).trans Sees.cells)
abbrev Calls (C : LawCx) (M : List Ent) (d fU fC : Addr) : Prop := ∀ m l, M ⊆ l → (C.L + 1 + 1 + 1 + 1 + 1 + 1 + 1 + 1, CellHas (some (.ref d))) ∈ l → Cbs C.X C.D (C.P m) l fU fC
section
variable {X : Cx} {g : Array GenState} {s : Shared} {l l' : List Ent} {A : Around} {E : Value → Shared → Prop} {env : Env}
variable {sm k pr td tw on rw : Option Value} {M : List Ent} {ps : Array Value} {b : List (Str × Value)} {d fU fC a1 a2 : Addr} {i1 i2 : Nat} {Q : Value → Shared → Prop}
theorem L_cff (C : LawCx) (S : St C.X g s ((C.L, NsHas b) :: (87, Is (tabObj ps)) :: cellsE C.L (some (.ref d)) sm k pr td tw on rw M)) (R : Rm A 80) (hb : AllBare g) (T : TabOk M ps lcPq) (Cb : Calls C M d fU fC) (h1 : RowV C.D M (.ref a1) i1) (h2 : RowV C.D M (.ref a2) i2)
    (h : ∀ ps' new s' g', AllBare g' → TabOk (new ++ M) ps' lcPq → St C.X g' s' ((C.L, NsHas b) :: (87, Is (tabObj ps')) :: cellsE C.L (some (.ref d)) sm k pr td tw on rw (new ++ M)) → Q (.bool (belK C.bel i1 i2)) s') :
    wpAny C.X.M A (call (.ref 104) [.ref fU, .ref fC, .none, .ref a1, .ref a2] []) Q E s := by
  obtain ⟨_, e1, n1, m1⟩ := h1; cases e1
  obtain ⟨_, e2, n2, m2⟩ := h2; cases e2
  obtain ⟨q1, q2⟩ := C.chk n1 n2
  by_cases e : i1 = i2
  · refine c_cff (n := 0) (stF := ⟨0, [], []⟩) S (R.le (by omega)) hb (T.sub upC) (upC m1) n1 (upC m2) n2 (Cb (wK C.w i1) _ upC (.head _)) (C.dP _) (C.skipK i1) (fun ne => absurd e ne) fun ps' new s' g' hb' S' T' => ?_
    have := h ps' new s' g' hb' T'.cells (S'.perm backC0)
    rw [(q1 e).1] at this
    rw [decide_eq_true e]; exact this
  · obtain ⟨st, r1, r2, r3⟩ := ff_of (q2 e).2
    refine c_cff S (R.le (by omega)) hb (T.sub upC) (upC m1) n1 (upC m2) n2 (Cb (wK C.w i1) _ upC (.head _)) (C.dP _) (C.skipK i1) (fun _ => ⟨r1, r2⟩) fun ps' new s' g' hb' S' T' => ?_
    have := h ps' new s' g' hb' T'.cells (S'.perm backC0)
    rw [decide_eq_false e, Bool.false_or, r3]; exact this
theorem L_bel (C : LawCx) (S : St C.X g s l) (R : Rm A 40) (h1 : RowV C.D l (.ref a1) i1) (h2 : RowV C.D l (.ref a2) i2) (h : ∀ s', St C.X g s' l → Q (.bool (belK C.bel i1 i2)) s') :
    wpAny C.X.M A (call (.ref 136) [.ref a1, .ref a2] []) Q E s := by
  obtain ⟨_, e1, n1, m1⟩ := h1; cases e1
  obtain ⟨_, e2, n2, m2⟩ := h2; cases e2
  have l1 := C.F.len i1 n1
  have l2 := C.F.len i2 n2
  have := C.F.nle
  refine c_below (r := C.D.row i1) (q := C.D.row i2) S R m1 m2 (by show (C.rows.getD i1 []).length < 60; omega) (by show (C.rows.getD i2 []).length = (C.rows.getD i1 []).length; omega) fun s' S' => ?_
  have e : belowF (C.D.row i1) (C.D.row i2) = belK C.bel i1 i2 := C.F.bel i1 i2 n1 n2
  rw [e]; exact h s' S'
theorem L_fmb (C : LawCx) {ac : Addr} (S : St C.X g s ((C.L, NsHas b) :: (87, Is (tabObj ps)) :: cellsE C.L (some (.ref d)) sm k pr td tw on rw M)) (R : Rm A 80) (hb : AllBare g) (T : TabOk M ps lcPq) (Cb : Calls C M d fU fC) (hc : (ac, ListIs [.ref a1, .ref a2]) ∈ M) (h1 : RowV C.D M (.ref a1) i1) (h2 : RowV C.D M (.ref a2) i2)
    (h : ∀ p lvs ks ps' new s' g', AllBare g' → TabOk (new ++ M) ps' lcPq → St C.X g' s' ((C.L, NsHas b) :: (87, Is (tabObj ps')) :: cellsE C.L (some (.ref d)) sm k pr td tw on rw ((p, ListIs lvs) :: (new ++ M))) → All2 (RowV C.D (new ++ M)) lvs ks →
      ks.Perm (dueK C.w C.bel C.N i1 i2) → ks.Pairwise (fun i j => C.st i ≤ C.st j) → Q (.ref p) s') :
    wpAny C.X.M A (call (.ref 97) [.ref fU, .ref fC, .none, .ref ac] []) Q E s := by
  obtain ⟨_, e1, n1, m1⟩ := h1; cases e1
  obtain ⟨_, e2, n2, m2⟩ := h2; cases e2
  obtain ⟨q1, q2⟩ := C.chk n1 n2
  by_cases e : i1 = i2
  · refine c_fmb (n := 0) (stF := ⟨0, [], []⟩) S (R.le (by omega)) hb (T.sub upC) (upC hc) (upC m1) n1 (upC m2) n2 (Cb 0 _ upC (.head _)) (C.dP _) C.skip0 (fun ne => absurd e ne) fun p lvs ks ps' new s' g' hb' S' T' hv k1 k2 => ?_
    refine h p lvs ks ps' new s' g' hb' T'.cells (S'.perm backC) (rowV_new hv) ?_ ?_
    · rw [k1 e, (q1 e).2]
    · rw [k1 e]; simp
  · obtain ⟨st, r1, r2, r3, _⟩ := mb_of (q2 e).1
    refine c_fmb S (R.le (by omega)) hb (T.sub upC) (upC hc) (upC m1) n1 (upC m2) n2 (Cb 0 _ upC (.head _)) (C.dP _) C.skip0 (fun _ => ⟨r1, r2⟩) fun p lvs ks ps' new s' g' hb' S' T' hv k1 k2 => ?_
    exact h p lvs ks ps' new s' g' hb' T'.cells (S'.perm backC) (rowV_new hv) ((k2 e).1.trans r3) (k2 e).2
end
end

section
theorem primeLaw4 : (fun (_ : OpenLaw) (_ : Params → Frag) => True) PySem.Challenge.rw_ft5005_01 hd.heap_39 := by k_fill; trivial
abbrev b4 (fU fC a3 : Addr) (nn : Int) (tn : Tok) : List (Str × Value) := [(Str.ofString "clock", .ref fC), (Str.ofString "up", .ref fU), (Str.ofString "three", .ref a3), (Str.ofString "n", .int nn tn)]
section
variable {X : Cx} {g : Array GenState} {s : Shared} {l l' : List Ent} {A : Around} {E : Value → Shared → Prop} {env : Env}
theorem law_4 (C : LawCx) {body : List Stmt} {qual : Str} {scope : Scope} {cdv : Value} (hb : FnAt141 C.X.w.params body qual scope cdv) {s8 : Stmt} {rest : List Stmt} (h8 : body[8]? = some s8) (R : Rm A 100)
    {d a1 a2 a3 fU fC : Addr} {i1 i2 : Nat} {ps : Array Value} {M : List Ent} {nn : Int} {tn : Tok} {rw : Option Value} (hbg : AllBare g) (T : TabOk M ps lcPq) (Cb : Calls C M d fU fC) (h1 : RowV C.D M (.ref a1) i1) (h2 : RowV C.D M (.ref a2) i2)
    (S : St C.X g s ((C.L, NsHas (b4 fU fC a3 nn tn)) :: (87, Is (tabObj ps)) :: cellsE C.L (some (.ref d)) none none none none (some (.ref a2)) (some (.ref a1)) rw M)) {Q : Flow → Shared → Prop}
    (h : ∀ ps' new s' g', AllBare g' → TabOk (new ++ M) ps' lcPq →
      St C.X g' s' ((C.L, NsHas (b4 fU fC a3 nn tn)) :: (87, Is (tabObj ps')) :: cellsE C.L (some (.ref d)) none none none none (some (.ref a2)) (some (.ref a1)) rw (new ++ M)) → wpAny C.X.M A (execs rest (envX qual scope C.L 141 cdv (lawCs (C.L + 1)))) Q E s') :
    wpAny C.X.M A (execs (s8 :: rest) (envX qual scope C.L 141 cdv (lawCs (C.L + 1)))) Q E s := by
  obtain ⟨oc, od, name, params, dV, kV, doc, pm, an, ct, osl, h141⟩ := hb
  obtain ⟨rfl, rfl, rfl, rfl⟩ := fn141 _ h141 (by k_is)
  cases h8
  clear h141
  repeat' walk_at "m:step"
  refine L_cff C S (R.le (by omega)) hbg T Cb h1 h2 fun ps' new s1 g1 hb1 T1 S1 => ?_
  clear S
  repeat' walk_at "m:step"
  refine L_bel C S1 (R.le (by omega)) (h1.mono fun e he => upFC (List.mem_append_right _ he)) (h2.mono fun e he => upFC (List.mem_append_right _ he)) fun s2 S2 => ?_
  clear S1
  repeat' walk_at "m:step"
  refine PyProof.Rows.ne_bool ?_
  repeat' walk_at "m:step"
  rw [if_neg (by simp)]
  repeat' walk_at "m:step"
  exact h ps' new s2 g1 hb1 T1 S2
end
end

section
theorem primeLaw5 : (fun (_ : OpenLaw) (_ : Params → Frag) => True) PySem.Challenge.rw_ft5005_01 hd.heap_39 := by k_fill; trivial
section
variable {X : Cx} {g : Array GenState} {s : Shared} {l l' : List Ent} {A : Around} {E : Value → Shared → Prop} {env : Env}
theorem law_5 (C : LawCx) {body : List Stmt} {qual : Str} {scope : Scope} {cdv : Value} (hb : FnAt141 C.X.w.params body qual scope cdv) {s9 s10 : Stmt} {rest : List Stmt} (h9 : body[9]? = some s9) (h10 : body[10]? = some s10) (R : Rm A 100)
    {d a1 a2 a3 fU fC : Addr} {i1 i2 : Nat} {ps : Array Value} {M : List Ent} {nn : Int} {tn : Tok} {rw : Option Value} (hbg : AllBare g) (T : TabOk M ps lcPq) (Cb : Calls C M d fU fC) (h1 : RowV C.D M (.ref a1) i1) (h2 : RowV C.D M (.ref a2) i2)
    (S : St C.X g s ((C.L, NsHas (b4 fU fC a3 nn tn)) :: (87, Is (tabObj ps)) :: cellsE C.L (some (.ref d)) none none none none (some (.ref a2)) (some (.ref a1)) rw M)) {Q : Flow → Shared → Prop}
    (h : ∀ ac p lvs ks ps' new s' g', AllBare g' → TabOk (new ++ (ac, ListIs [.ref a1, .ref a2]) :: M) ps' lcPq → All2 (RowV C.D (new ++ (ac, ListIs [.ref a1, .ref a2]) :: M)) lvs ks → ks.Perm (dueK C.w C.bel C.N i1 i2) → ks.Pairwise (fun i j => C.st i ≤ C.st j) →
      St C.X g' s' ((C.L, NsHas ((Str.ofString "asked", .ref ac) :: b4 fU fC a3 nn tn)) :: (87, Is (tabObj ps')) :: cellsE C.L (some (.ref d)) none none none (some (.ref p)) (some (.ref a2)) (some (.ref a1)) rw ((p, ListIs lvs) :: (new ++ (ac, ListIs [.ref a1, .ref a2]) :: M))) →
      wpAny C.X.M A (execs rest (envX qual scope C.L 141 cdv (lawCs (C.L + 1)))) Q E s') :
    wpAny C.X.M A (execs (s9 :: s10 :: rest) (envX qual scope C.L 141 cdv (lawCs (C.L + 1)))) Q E s := by
  obtain ⟨oc, od, name, params, dV, kV, doc, pm, an, ct, osl, h141⟩ := hb
  obtain ⟨rfl, rfl, rfl, rfl⟩ := fn141 _ h141 (by k_is)
  cases h9; cases h10
  clear h141
  repeat' walk_at "m:step"
  refine w_newList S (by rw [sizeLine_eq]; simp) fun ac s1 S1 => ?_
  clear S
  replace S1 := (S1.perm (permIdx (es := [_, _, _]) [0, 2, 1] (by kernel_rfl))).perm (backC (new := []))
  repeat' walk_at "m:step"
  rename St _ _ _ _ => S2
  clear S1
  refine L_fmb C S2 (R.le (by omega)) hbg (T.sub up1) (fun m l hl => Cb m l fun e he => hl (.tail _ he)) (.head _) (h1.mono up1) (h2.mono up1) fun p lvs ks ps' new s' g' hb' T' S' hv hp ho => ?_
  clear S2
  refine w_storeCell (c := C.L + 1 + 1 + 1 + 1) S' rfl updTold fun s3 S3 => ?_
  clear S'
  repeat' walk_at "m:step"
  exact h ac p lvs ks ps' new s3 g' hb' T' hv hp ho S3
end
end

section
theorem primeLaw6 : (fun (_ : OpenLaw) (_ : Params → Frag) => True) PySem.Challenge.rw_ft5005_01 hd.heap_39 := by k_fill; trivial
abbrev b5 (ac fU fC a3 : Addr) (nn : Int) (tn : Tok) : List (Str × Value) := (Str.ofString "asked", .ref ac) :: b4 fU fC a3 nn tn
def jointK (b : List Nat) (N i j : Nat) : List Nat := (List.range N).filter fun k => belK b k i && belK b k j
theorem filt_range {f : Nat → Bool} {i : Nat} : (List.range (i + 1)).filter f = if f i = true then (List.range i).filter f ++ [i] else (List.range i).filter f := by
  rw [List.range_succ, List.filter_append]
  cases h : f i <;> simp [h]
section
variable {X : Cx} {g : Array GenState} {s : Shared} {l l' : List Ent} {A : Around} {E : Value → Shared → Prop} {env : Env}
theorem law_6 (C : LawCx) {body : List Stmt} {qual : Str} {scope : Scope} {cdv : Value} (hb : FnAt141 C.X.w.params body qual scope cdv) {s11 : Stmt} {rest : List Stmt} (h11 : body[11]? = some s11) (R : Rm A 100)
    {Rd d a1 a2 a3 fU fC ac : Addr} {i1 i2 : Nat} {ps : Array Value} {M : List Ent} {nn : Int} {tn : Tok} {td : Option Value} {rvs : List Value} {xs : Xs} (B : C.Base M Rd d rvs xs) (h1 : RowV C.D M (.ref a1) i1) (h2 : RowV C.D M (.ref a2) i2)
    (S : St C.X g s ((C.L, NsHas (b5 ac fU fC a3 nn tn)) :: (87, Is (tabObj ps)) :: cellsE C.L (some (.ref d)) none none none td (some (.ref a2)) (some (.ref a1)) (some (.ref Rd)) M)) {Q : Flow → Shared → Prop}
    (h : ∀ jd js s', All2 (RowV C.D M) js (jointK C.bel C.N i1 i2) →
      St C.X g s' ((C.L, NsHas ((Str.ofString "joint", .ref jd) :: b5 ac fU fC a3 nn tn)) :: (87, Is (tabObj ps)) :: cellsE C.L (some (.ref d)) none none none td (some (.ref a2)) (some (.ref a1)) (some (.ref Rd)) ((jd, ListIs js) :: M)) →
      wpAny C.X.M A (execs rest (envX qual scope C.L 141 cdv (lawCs (C.L + 1)))) Q E s') :
    wpAny C.X.M A (execs (s11 :: rest) (envX qual scope C.L 141 cdv (lawCs (C.L + 1)))) Q E s := by
  obtain ⟨oc, od, name, params, dV, kV, doc, pm, an, ct, osl, h141⟩ := hb
  obtain ⟨rfl, rfl, rfl, rfl⟩ := fn141 _ h141 (by k_is)
  cases h11
  clear h141
  have hlenN : rvs.length = C.N := by rw [B.rv.length]; simp
  have hN24 := C.F.le
  have hR := B.hR
  repeat' walk_at "m:step"
  refine w_Assign_ListComp (cl := [(Str.ofString "two", C.L + 1 + 1 + 1), (Str.ofString "one", C.L + 1 + 1)]) (by rfl) (by rfl) ?_
  repeat' walk_at "m:step"
  refine w_iterList (f := (C.L, NsHas [])) S (by walk_at "m:mem") fun I s3 S3 => ?_
  clear S
  refine w_compGo (It.list (A := A) R.hh I Rd rvs) S3 fun Cc Dr s4 S4 => ?_
  clear S3
  refine w_compLoop (It.list (A := A) R.hh I Rd rvs) (fun i ys l' => l' = _ ∧ All2 (RowV C.D M) ys ((List.range i).filter fun k => belK C.bel k i1 && belK C.bel k i2) ∧ i ≤ C.N) ?_ S4 ⟨rfl, .nil, Nat.zero_le _⟩ ?_ ?_ rfl rfl
  · rintro i ys l' ⟨rfl, hys, hi⟩
    refine ⟨fun p hp => ?_, ?_⟩
    · rcases List.mem_singleton.mp hp with rfl
      walk_at "m:mem"
    · have := List.length_filter_le (fun k => belK C.bel k i1 && belK C.bel k i2) (List.range i)
      simp only [List.length_range] at this
      rw [hys.length, sizeLine_eq]; omega
  · rintro i v ys l' s5 hii hvi ⟨rfl, hys, _⟩ S5
    clear S4
    obtain ⟨k, hk, pa, rfl, hkN, hpa⟩ := B.rv.get hvi
    have hki : k = i := by
      obtain ⟨_, e⟩ := List.getElem?_eq_some_iff.mp hk
      rw [List.getElem_range] at e; exact e.symm
    subst hki
    refine wpAny_tests_one ?_
    have hup : ∀ {p q r f t : Ent}, M ⊆ p :: q :: r :: f :: t :: cellsE C.L (some (.ref d)) none none none td (some (.ref a2)) (some (.ref a1)) (some (.ref Rd)) M := fun {p q r f t} e he => .tail _ (.tail _ (.tail _ (upFC he)))
    repeat' walk_at "m:step"
    refine L_bel C S5 (R.le (by omega)) (⟨pa, rfl, hkN, hup hpa⟩ : RowV C.D _ (.ref pa) k) (h1.mono hup) fun s6 S6 => ?_
    clear S5
    repeat' walk_at "m:step"
    have no : (belK C.bel k i1 && belK C.bel k i2) = false → All2 (RowV C.D M) ys ((List.range (k + 1)).filter fun k => belK C.bel k i1 && belK C.bel k i2) := fun e => by
      rw [filt_range, if_neg (by rw [e]; decide)]; exact hys
    cases g1 : belK C.bel k i1 with
    | false =>
      rw [if_neg (by decide), if_neg (by decide)]
      exact ⟨_, ⟨rfl, no (by rw [g1]; rfl), by omega⟩, S6.wk .here (NsHas.wk fun p hp => (nomatch hp))⟩
    | true =>
      rw [if_pos rfl]
      repeat' walk_at "m:step"
      refine L_bel C S6 (R.le (by omega)) (⟨pa, rfl, hkN, hup hpa⟩ : RowV C.D _ (.ref pa) k) (h2.mono hup) fun s7 S7 => ?_
      clear S6
      repeat' walk_at "m:step"
      cases g2 : belK C.bel k i2 with
      | false =>
        rw [if_neg (by decide), if_neg (by decide)]
        exact ⟨_, ⟨rfl, no (by rw [g1, g2]; rfl), by omega⟩, S7.wk .here (NsHas.wk fun p hp => (nomatch hp))⟩
      | true =>
        rw [if_pos rfl]
        repeat' walk_at "m:step"
        rw [if_pos rfl]
        repeat' walk_at "m:step"
        refine ⟨_, ⟨rfl, ?_, by omega⟩, S7.wk .here (NsHas.wk fun p hp => (nomatch hp))⟩
        rw [filt_range, if_pos (by rw [g1, g2]; rfl)]
        exact hys.append (.cons ⟨pa, rfl, hkN, hpa⟩ .nil)
  · rintro ys l' s5 ⟨rfl, hys, _⟩ S5
    clear S4
    refine compPost_use (S5.perm (permIdx (es := [_, _, _]) [0, 2, 1] (by kernel_rfl))) (fun s6 S6 => ?_)
    clear S5
    repeat' walk_at "m:step"
    rw [hlenN] at hys
    exact h Dr ys s6 hys ((S6.perm (permIdx (es := [_, _, _]) [0, 2, 1] (by kernel_rfl))).perm (backC (new := [])))
end
end

section
theorem primeLaw7 : (fun (_ : OpenLaw) (_ : Params → Frag) => True) PySem.Challenge.rw_ft5005_01 hd.heap_39 := by k_fill; trivial
/-- the law's cells but pair -/
abbrev cells7 (L : Addr) (tm sm k td tw on rw : Option Value) (M : List Ent) : List Ent :=
  (L + 1 + 1 + 1 + 1 + 1 + 1 + 1 + 1, CellHas tm) :: (L + 1 + 1 + 1 + 1 + 1 + 1 + 1, CellHas sm) :: (L + 1 + 1 + 1 + 1 + 1 + 1, CellHas k) :: (L + 1 + 1 + 1 + 1, CellHas td) :: (L + 1 + 1 + 1, CellHas tw) :: (L + 1 + 1, CellHas on) :: (L + 1, CellHas rw) :: M
theorem up7 {L : Addr} {tm sm k td tw on rw : Option Value} {M : List Ent} : M ⊆ cells7 L tm sm k td tw on rw M := fun _ he => .tail _ (.tail _ (.tail _ (.tail _ (.tail _ (.tail _ (.tail _ he))))))
theorem foldl_take {α β : Type} {f : β → α → β} {l : List α} {b : β} {i : Nat} {a : α} (h : l[i]? = some a) : (l.take (i + 1)).foldl f b = f ((l.take i).foldl f b) a := by
  rw [List.take_add_one, h, List.foldl_append]; rfl
theorem filter_take {f : Nat → Bool} {l : List Nat} {i a : Nat} (h : l[i]? = some a) : (l.take (i + 1)).filter f = if f a = true then (l.take i).filter f ++ [a] else (l.take i).filter f := by
  rw [List.take_add_one, h, List.filter_append]
  show _ ++ List.filter f [a] = _
  cases e : f a <;> simp [e]
theorem dueStep_len (b : List Nat) : ∀ (l d : List Nat), (l.foldl (dueStep b) d).length ≤ d.length + l.length
  | [], d => by simp
  | k :: l, d => by
    rw [List.foldl_cons]
    have := dueStep_len b l (dueStep b d k)
    have h2 : (dueStep b d k).length ≤ d.length + 1 := by unfold dueStep; split <;> simp
    simp only [List.length_cons]; omega
section
variable {X : Cx} {g : Array GenState} {s : Shared} {l l' : List Ent} {A : Around} {E : Value → Shared → Prop} {env : Env}
theorem law_7b (C : LawCx) {body : List Stmt} {qual : Str} {scope : Scope} {cdv : Value} (hb : FnAt141 C.X.w.params body qual scope cdv) {e1 e2 : Expr} {bd : List Stmt} {p13 : Pos} (h13 : body[13]? = some (.For e1 e2 bd [] p13)) (R : Rm A 100)
    {I Ds Dd : Addr} {f : Int → Int} {pvs : List Value} {ks : List Nat} {b0 : List (Str × Value)} {ps : Array Value} {M : List Ent} {tm sm k pr td tw on rw : Option Value} (hD : (Ds, ListIs pvs) ∈ M) (hpv : All2 (PairV C.D f M) pvs ks) (h24 : ks.length ≤ 24)
    (S : St C.X g s ((I, LIterIs Ds 0) :: (C.L, NsHas ((Str.ofString "due", .ref Dd) :: b0)) :: (C.L + 1 + 1 + 1 + 1 + 1, CellHas pr) :: (Dd, ListIs []) :: (87, Is (tabObj ps)) :: cells7 C.L tm sm k td tw on rw M)) {Rr : Result → Shared → Prop}
    (h : ∀ dvs w s', All2 (RowV C.D M) dvs (ks.foldl (dueStep C.bel) []) →
      St C.X g s' ((C.L, NsHas ((Str.ofString "due", .ref Dd) :: b0)) :: (C.L + 1 + 1 + 1 + 1 + 1, CellHas w) :: (Dd, ListIs dvs) :: (87, Is (tabObj ps)) :: cells7 C.L tm sm k td tw on rw M) → Rr (.ok .next) s') :
    codeAny C.X.M A (.forLoop e1 (.ref I) bd [] (envX qual scope C.L 141 cdv (lawCs (C.L + 1)))) Rr s := by
  obtain ⟨oc, od, name, params, dV, kV, doc, pm, an, ct, osl, h141⟩ := hb
  obtain ⟨rfl, rfl, rfl, rfl⟩ := fn141 _ h141 (by k_is)
  cases h13
  clear h141
  refine w_forLoopC (c := C.L + 1 + 1 + 1 + 1 + 1) (It.list (A := A) R.hh I Ds pvs) (fun i b l' => b = (Str.ofString "due", Value.ref Dd) :: b0 ∧ ∃ dvs, l' = (Dd, ListIs dvs) :: (87, Is (tabObj ps)) :: cells7 C.L tm sm k td tw on rw M ∧ All2 (RowV C.D M) dvs ((ks.take i).foldl (dueStep C.bel) [])) ?_ S ⟨rfl, [], rfl, .nil⟩ ?_ ?_ rfl
  · rintro i b l' ⟨rfl, dvs, rfl, _⟩ p hp
    rcases List.mem_singleton.mp hp with rfl
    exact .tail _ (.tail _ (up7 hD))
  · rintro i v b l' s1 hi hvi ⟨rfl, dvs, rfl, hdv⟩ S1
    clear S
    obtain ⟨k0, hk0, p, a, rfl, hkN, hp, ha⟩ := hpv.get hvi
    have hdl := dueStep_len C.bel (ks.take i) []
    have hdl2 := hdv.length
    rw [List.length_take] at hdl
    simp only [List.length_nil] at hdl
    have up5' : ∀ {q1 q2 q3 q4 q5 : Ent}, M ⊆ q1 :: q2 :: q3 :: q4 :: q5 :: cells7 C.L tm sm k td tw on rw M := fun {q1 q2 q3 q4 q5} e he => up5 (up7 he)
    have up8' : ∀ {q1 q2 q3 q4 q5 q6 q7 q8 : Ent}, M ⊆ q1 :: q2 :: q3 :: q4 :: q5 :: q6 :: q7 :: q8 :: cells7 C.L tm sm k td tw on rw M := fun {q1 q2 q3 q4 q5 q6 q7 q8} e he => up3 (up5 (up7 he))
    repeat' walk_at "m:step"
    refine w_ListComp (cl := [(Str.ofString "pair", C.L + 1 + 1 + 1 + 1 + 1)]) (by rfl) ?_
    repeat' walk_at "m:step"
    refine w_iterList (f := (C.L, NsHas [])) S1 (by walk_at "m:mem") fun I2 s2 S2 => ?_
    clear S1
    refine w_compGo (It.list (A := A) R.hh I2 Dd dvs) S2 fun Cc Dr s3 S3 => ?_
    clear S2
    refine w_compLoop (It.list (A := A) R.hh I2 Dd dvs) (fun j ys l' => l' = _ ∧ All2 (RowV C.D M) ys ((((ks.take i).foldl (dueStep C.bel) []).take j).filter fun o => belK C.bel k0 o) ∧ j ≤ dvs.length) ?_ S3 ⟨rfl, .nil, Nat.zero_le _⟩ ?_ ?_ rfl rfl
    · rintro j ys l' ⟨rfl, hys, hj⟩
      refine ⟨fun q hq => ?_, ?_⟩
      · rcases List.mem_singleton.mp hq with rfl
        walk_at "m:mem"
      · have h1 := List.length_filter_le (fun o => belK C.bel k0 o) (((ks.take i).foldl (dueStep C.bel) []).take j)
        rw [List.length_take] at h1
        rw [hys.length, sizeLine_eq]; omega
    · rintro j v ys l' s4 hj hvj ⟨rfl, hys, _⟩ S4
      clear S3
      obtain ⟨o, ho, oa, rfl, hoN, hoa⟩ := hdv.get hvj
      refine wpAny_tests_one ?_
      repeat' walk_at "m:step"
      rename St _ _ _ _ => S5
      try clear S4
      obtain ⟨op, hop, tt, n, rfl⟩ := S5.mem (up8' hp)
      refine item_tupleT (l := [.int (f (C.D.st k0)) tt, .ref a]) ⟨_, hop, rfl, n, rfl⟩ (by decide) (by decide) (j := 1) (by rfl) rfl ?_
      repeat' walk_at "m:step"
      refine L_bel C S5 (R.le (by omega)) (⟨a, rfl, hkN, up8' ha⟩ : RowV C.D _ (.ref a) k0) (⟨oa, rfl, hoN, up8' hoa⟩ : RowV C.D _ (.ref oa) o) fun s6 S6 => ?_
      clear S5 hop
      repeat' walk_at "m:step"
      cases g1 : belK C.bel k0 o with
      | false =>
        rw [if_neg (by decide)]
        exact ⟨_, ⟨rfl, by rw [filter_take ho, g1, if_neg (by decide)]; exact hys, by omega⟩, S6.wk .here (NsHas.wk fun p hp => (nomatch hp))⟩
      | true =>
        rw [if_pos rfl]
        repeat' walk_at "m:step"
        exact ⟨_, ⟨rfl, by rw [filter_take ho, g1, if_pos rfl]; exact hys.append (.cons ⟨oa, rfl, hoN, hoa⟩ .nil), by omega⟩, S6.wk .here (NsHas.wk fun p hp => (nomatch hp))⟩
    · rintro ys l' s4 ⟨rfl, hys, _⟩ S4
      clear S3
      refine compPost_none S4 fun s5 S5 => ?_
      clear S4
      repeat' walk_at "m:step"
      refine w_newList S5.swap (by rw [sizeLine_eq]; simp) fun D3 s6 S6 => ?_
      clear S5
      repeat' walk_at "m:step"
      rw [hdl2, List.take_length] at hys
      refine w_eqKs (js := []) C.dOk S6 (R.le (k := 100) (j := 30) (by omega)).u64 (by walk_at "m:mem") (by walk_at "m:mem") (hys.mono fun _ _ hx => hx.mono fun e he => up2 (up5 (up7 he))) .nil ?_
      have S7 : St C.X g s6 ((C.L, NsHas ((Str.ofString "due", Value.ref Dd) :: b0)) :: (C.L + 1 + 1 + 1 + 1 + 1, CellHas (some (.ref p))) :: (I, LIterIs Ds (i + 1)) :: (Dd, ListIs dvs) :: (87, Is (tabObj ps)) :: cells7 C.L tm sm k td tw on rw M) :=
        S6.sub (((List.sublist_cons_self _ _).trans (List.sublist_cons_self _ _)).cons_cons _)
      clear S6
      repeat' walk_at "m:step"
      have hst : (ks.take (i + 1)).foldl (dueStep C.bel) [] = dueStep C.bel ((ks.take i).foldl (dueStep C.bel) []) k0 := foldl_take hk0
      by_cases g1 : ((ks.take i).foldl (dueStep C.bel) []).filter (fun o => belK C.bel k0 o) = []
      · rw [decide_eq_true g1, if_pos rfl]
        repeat' walk_at "m:step"
        rename St _ _ _ _ => S8
        try clear S7
        obtain ⟨op, hop, tt, n, rfl⟩ := S8.mem (up5' hp)
        refine item_tupleT (l := [.int (f (C.D.st k0)) tt, .ref a]) ⟨_, hop, rfl, n, rfl⟩ (by decide) (by decide) (j := 1) (by rfl) rfl ?_
        repeat' walk_at "m:step"
        refine w_append S8 (.there (.there (.there .here))) (by rw [sizeLine_eq]; omega) fun s9 S9 => ?_
        clear S8 hop
        dsimp only
        repeat' walk_at "m:step"
        refine ⟨_, _, _, ⟨rfl, _, rfl, ?_⟩, S9⟩
        have hd1 : dueStep C.bel ((ks.take i).foldl (dueStep C.bel) []) k0 = ((ks.take i).foldl (dueStep C.bel) []) ++ [k0] := if_pos g1
        rw [hst, hd1]
        exact hdv.append (.cons ⟨a, rfl, hkN, ha⟩ .nil)
      · rw [decide_eq_false g1, if_neg (by decide)]
        repeat' walk_at "m:step"
        refine ⟨_, _, _, ⟨rfl, dvs, rfl, ?_⟩, S7⟩
        have hd1 : dueStep C.bel ((ks.take i).foldl (dueStep C.bel) []) k0 = ((ks.take i).foldl (dueStep C.bel) []) := if_neg g1
        rw [hst, hd1]
        exact hdv
  · rintro b l' s1 w ⟨rfl, dvs, rfl, hdv⟩ S1
    rw [hpv.length, List.take_length] at hdv
    exact h dvs w s1 hdv S1
end
end

section
theorem primeLaw7c : (fun (_ : OpenLaw) (_ : Params → Frag) => True) PySem.Challenge.rw_ft5005_01 hd.heap_39 := by k_fill; trivial
theorem LawCx.key_lt (C : LawCx) {i j : Nat} (hi : i < C.N) (hj : j < C.N) : ltK C.w i j = decide (keyK C.w i < keyK C.w j) := by
  have h1 := C.F.le
  have h2 := C.F.wle i hi
  have h3 := C.F.wle j hj
  unfold ltK keyK
  rw [Bool.eq_iff_iff, decide_eq_true_eq]
  by_cases e : wK C.w i = wK C.w j
  · rw [show Nat.beq (wK C.w i) (wK C.w j) = true from Nat.beq_eq.symm ▸ e]
    show Nat.blt i j = true ↔ _
    rw [show (Nat.blt i j = true) = (i < j) from propext ⟨of_blt, fun h => Nat.ble_eq.mpr h⟩]
    omega
  · have e3 : Nat.beq (wK C.w i) (wK C.w j) = false := by
      cases hq : Nat.beq (wK C.w i) (wK C.w j) with
      | false => rfl
      | true => exact absurd (Nat.eq_of_beq_eq_true hq) e
    rw [e3]
    show Nat.blt (wK C.w j) (wK C.w i) = true ↔ _
    rw [show (Nat.blt (wK C.w j) (wK C.w i) = true) = (wK C.w j < wK C.w i) from propext ⟨of_blt, fun h => Nat.ble_eq.mpr h⟩]
    omega
theorem LawCx.key_inj (C : LawCx) {i j : Nat} (hi : i < C.N) (hj : j < C.N) (h1 : keyK C.w i ≤ keyK C.w j) (h2 : keyK C.w j ≤ keyK C.w i) : i = j := by
  have h3 := C.F.le
  unfold keyK at h1 h2
  omega
theorem LawCx.joint_sorted (C : LawCx) {i1 i2 : Nat} {ks : List Nat} (hp : ks.Perm (jointK C.bel C.N i1 i2)) (ho : ks.Pairwise fun i j => keyK C.w i ≤ keyK C.w j) : ks = (orderK C.w C.N).filter fun k => belK C.bel k i1 && belK C.bel k i2 := by
  have h2 : ((orderK C.w C.N).filter fun k => belK C.bel k i1 && belK C.bel k i2).Perm (jointK C.bel C.N i1 i2) := C.F.ordP.filter _
  have hlt : ∀ k ∈ ks, k < C.N := fun k hk => List.mem_range.mp (List.mem_filter.mp (hp.mem_iff.mp hk)).1
  have hlt2 : ∀ k ∈ (orderK C.w C.N).filter (fun k => belK C.bel k i1 && belK C.bel k i2), k < C.N := fun k hk => List.mem_range.mp (C.F.ordP.mem_iff.mp (List.mem_filter.mp hk).1)
  exact (hp.trans h2.symm).eq_of_pairwise (le := fun i j => keyK C.w i ≤ keyK C.w j) (fun a b ha hb h1 h2 => C.key_inj (hlt a ha) (hlt2 b hb) h1 h2) ho (C.F.ordS.filter _)
end

section
theorem primeLaw7d : (fun (_ : OpenLaw) (_ : Params → Frag) => True) PySem.Challenge.rw_ft5005_01 hd.heap_39 := by k_fill; trivial
abbrev b6 (jd ac fU fC a3 : Addr) (nn : Int) (tn : Tok) : List (Str × Value) := (Str.ofString "joint", .ref jd) :: b5 ac fU fC a3 nn tn
section
variable {X : Cx} {g : Array GenState} {s : Shared} {l l' : List Ent} {A : Around} {E : Value → Shared → Prop} {env : Env}
theorem law_7 (C : LawCx) {body : List Stmt} {qual : Str} {scope : Scope} {cdv : Value} (hb : FnAt141 C.X.w.params body qual scope cdv) {s12 s13 : Stmt} {rest : List Stmt} (h12 : body[12]? = some s12) (h13 : body[13]? = some s13) (R : Rm A 100)
    {Rd d a3 fU fC ac jd : Addr} {i1 i2 : Nat} {ps : Array Value} {M : List Ent} {nn : Int} {tn : Tok} {td tw on rw : Option Value} {rvs js : List Value} {xs : Xs} (B : C.Base M Rd d rvs xs) (hjd : (jd, ListIs js) ∈ M) (hjs : All2 (RowV C.D M) js (jointK C.bel C.N i1 i2))
    (S : St C.X g s ((C.L, NsHas (b6 jd ac fU fC a3 nn tn)) :: (87, Is (tabObj ps)) :: cellsE C.L (some (.ref d)) none none none td tw on rw M)) {Q : Flow → Shared → Prop}
    (h : ∀ Dd dvs new w s', All2 (RowV C.D (new ++ M)) dvs (dueK C.w C.bel C.N i1 i2) →
      St C.X g s' ((C.L, NsHas ((Str.ofString "due", .ref Dd) :: b6 jd ac fU fC a3 nn tn)) :: (87, Is (tabObj ps)) :: cellsE C.L (some (.ref d)) none none w td tw on rw ((Dd, ListIs dvs) :: (new ++ M))) →
      wpAny C.X.M A (execs rest (envX qual scope C.L 141 cdv (lawCs (C.L + 1)))) Q E s') :
    wpAny C.X.M A (execs (s12 :: s13 :: rest) (envX qual scope C.L 141 cdv (lawCs (C.L + 1)))) Q E s := by
  have hb' := hb
  obtain ⟨oc, od, name, params, dV, kV, doc, pm, an, ct, osl, h141⟩ := hb
  obtain ⟨rfl, rfl, rfl, rfl⟩ := fn141 _ h141 (by k_is)
  have h13' := h13
  cases h12; cases h13
  clear h141
  have hN24 := C.F.le
  have hjl : (jointK C.bel C.N i1 i2).length ≤ C.N := by
    have := List.length_filter_le (fun k => belK C.bel k i1 && belK C.bel k i2) (List.range C.N)
    simpa [jointK] using this
  have hjsl := hjs.length
  repeat' walk_at "m:step"
  refine w_newList S (by rw [sizeLine_eq]; simp) fun Dd s1 S1 => ?_
  clear S
  repeat' walk_at "m:step"
  rename St _ _ _ _ => S2
  try clear S1
  refine w_For ?_
  repeat' walk_at "m:step"
  refine w_ListComp (cl := [(Str.ofString "times", C.L + 1 + 1 + 1 + 1 + 1 + 1 + 1 + 1)]) (by rfl) ?_
  repeat' walk_at "m:step"
  refine w_iterList (f := (C.L, NsHas [])) S2 (by walk_at "m:mem") fun I s3 S3 => ?_
  clear S2
  refine w_compGo (It.list (A := A) R.hh I jd js) S3 fun Cc Dr s4 S4 => ?_
  clear S3
  obtain ⟨l1, hl1⟩ : ∃ l1, (C.L, NsHas ((Str.ofString "due", Value.ref Dd) :: b6 jd ac fU fC a3 nn tn)) :: (Dd, ListIs []) :: (87, Is (tabObj ps)) :: cellsE C.L (some (.ref d)) none none none td tw on rw M = l1 := ⟨_, rfl⟩
  replace S4 : St C.X g s4 ((Cc, NsHas []) :: (I, LIterIs jd 0) :: (Dr, ListIs []) :: ([] ++ l1)) := by subst hl1; exact S4
  have hM1 : M ⊆ l1 := hl1 ▸ fun e he => .tail _ (upFC he)
  have hcell : (C.L + 1 + 1 + 1 + 1 + 1 + 1 + 1 + 1, CellHas (some (.ref d))) ∈ l1 := hl1 ▸ .tail _ (.tail _ (.tail _ (.head _)))
  refine w_compLoop (It.list (A := A) R.hh I jd js) (fun i ys l' => (∃ new, l' = new ++ l1 ∧ All2 (PairV C.D (fun x => 0 - x) (new ++ l1)) ys ((jointK C.bel C.N i1 i2).take i)) ∧ i ≤ js.length) ?_ S4 ⟨⟨[], rfl, .nil⟩, Nat.zero_le _⟩ ?_ ?_ rfl rfl
  · rintro i ys l' ⟨⟨new, rfl, hys⟩, hi⟩
    refine ⟨fun q hq => ?_, ?_⟩
    · rcases List.mem_singleton.mp hq with rfl
      exact List.mem_append_right _ (hM1 hjd)
    · have := hys.length
      rw [List.length_take] at this
      rw [sizeLine_eq]; omega
  · rintro i v ys l' s5 hi hvi ⟨⟨new, rfl, hys⟩, _⟩ S5
    clear S4
    obtain ⟨k, hk, pa, rfl, hkN, hpa⟩ := hjs.get hvi
    have hcell' : (C.L + 1 + 1 + 1 + 1 + 1 + 1 + 1 + 1, CellHas (some (.ref d))) ∈ new ++ l1 := List.mem_append_right _ hcell
    have up : ∀ {q1 q2 q3 : Ent}, M ⊆ q1 :: q2 :: q3 :: (new ++ l1) := fun {q1 q2 q3} e he => up3 (List.mem_append_right _ (hM1 he))
    refine wpAny_tests_nil ?_
    rw [if_pos rfl]
    repeat' walk_at "m:step"
    rename St _ _ _ _ => S6
    try clear S5
    refine w_dictTail S6 (up B.hd) (B.dF.sees (.of_sub up)) (up hpa) hkN (i := C.st k) rfl R.u1 fun s7 t7 S7 => ?_
    clear S6
    repeat' walk_at "m:step"
    rename St _ _ _ _ => S8
    try clear S7
    refine w_newTuple S8 (by rw [sizeLine_eq]; simp) fun q s9 S9 => ?_
    clear S8
    replace S9 := S9.wk (P' := PairIs (0 - C.st k) pa) (.there .here) (fun o h => ⟨_, h⟩)
    refine ⟨(q, PairIs (0 - C.st k) pa) :: (new ++ l1), ⟨⟨(q, PairIs (0 - C.st k) pa) :: new, rfl, ?_⟩, by omega⟩, ?_⟩
    · rw [List.take_add_one, hk]
      exact (hys.mono fun _ _ hx => hx.mono fun e he => .tail _ he).append (.cons ⟨q, pa, rfl, hkN, .head _, .tail _ (List.mem_append_right _ (hM1 hpa))⟩ .nil)
    · exact (S9.wk (P' := NsHas []) .here (NsHas.wk fun p hp => (nomatch hp))).perm (permIdx (es := [_, _, _, _]) [0, 2, 3, 1] (by kernel_rfl))
  · rintro ys l' s5 ⟨⟨new, rfl, hys⟩, _⟩ S5
    clear S4
    refine compPost_none S5 fun s6 S6 => ?_
    clear S5
    rw [hjsl, List.take_length] at hys
    have hyl := hys.length
    repeat' walk_at "m:step"
    subst hl1
    have S7 : St C.X g s6 ((C.L, NsHas ((Str.ofString "due", Value.ref Dd) :: b6 jd ac fU fC a3 nn tn)) :: (((Dr, ListIs ys) :: new) ++ (Dd, ListIs []) :: (87, Is (tabObj ps)) :: cellsE C.L (some (.ref d)) none none none td tw on rw M)) := S6.perm (List.perm_middle (l₁ := (Dr, ListIs ys) :: new))
    clear S6
    have hs1 : Sees (new ++ (C.L, NsHas ((Str.ofString "due", Value.ref Dd) :: b6 jd ac fU fC a3 nn tn)) :: (Dd, ListIs []) :: (87, Is (tabObj ps)) :: cellsE C.L (some (.ref d)) none none none td tw on rw M) (((Dr, ListIs ys) :: new) ++ (Dd, ListIs []) :: (87, Is (tabObj ps)) :: cellsE C.L (some (.ref d)) none none none td tw on rw M) :=
      ((Sees.of_sub List.perm_middle.subset).trans (Sees.drop NoTup.ns (Sees.refl _))).trans (Sees.of_sub fun e he => .tail _ he)
    refine w_sortedPairs (D := C.D) (f := fun x => 0 - x) (key := keyK C.w) S7 (by have := R.hu; omega) (.head _) (hys.mono fun _ _ hx => hx.sees hs1) (by omega) (fun i j hi hj => ?_) fun Ds s8 pvs ks' S8 hpv hperm hord => ?_
    · rw [show (0 - C.D.st i) = -(C.D.st i) by omega, show (0 - C.D.st j) = -(C.D.st j) by omega, C.ltOk i j hi hj]
      exact C.key_lt hi hj
    · clear S7
      have hks := C.joint_sorted hperm hord
      have hkl := hperm.length_eq
      refine w_iterList (f := (C.L, NsHas [])) S8 (.tail _ (.head _)) fun I2 s9 S9 => ?_
      clear S8
      have pn := permNew (new := new) (es := (Dd, ListIs []) :: (87, Is (tabObj ps)) :: cellsE C.L (some (.ref d)) none none none td tw on rw []) (l := M)
      have S10 := (S9.perm (((((pn.cons (Dr, ListIs ys)).cons (Ds, ListIs pvs)).cons _).cons (I2, LIterIs Ds 0)))).perm (l' := (I2, LIterIs Ds 0) :: (C.L, NsHas ((Str.ofString "due", Value.ref Dd) :: b6 jd ac fU fC a3 nn tn)) :: (C.L + 1 + 1 + 1 + 1 + 1, CellHas none) :: (Dd, ListIs []) :: (87, Is (tabObj ps)) ::
        cells7 C.L (some (.ref d)) none none td tw on rw ((Ds, ListIs pvs) :: (Dr, ListIs ys) :: (new ++ M))) (permIdx (es := [_, _, _, _, _, _, _, _, _, _, _, _, _, _]) [0, 1, 9, 4, 5, 6, 7, 8, 10, 11, 12, 13, 2, 3] (by kernel_rfl))
      clear S9
      have hs2 : Sees (((Dr, ListIs ys) :: new) ++ (Dd, ListIs []) :: (87, Is (tabObj ps)) :: cellsE C.L (some (.ref d)) none none none td tw on rw M) ((Ds, ListIs pvs) :: (Dr, ListIs ys) :: (new ++ M)) := by
        refine (Sees.of_sub (permNew (new := (Dr, ListIs ys) :: new) (es := (Dd, ListIs []) :: (87, Is (tabObj ps)) :: cellsE C.L (some (.ref d)) none none none td tw on rw []) (l := M)).subset).trans ?_
        exact (Sees.drop NoTup.list (Sees.drop NoTup.tab Sees.cells)).trans (Sees.of_sub up1)
      refine law_7b C hb' h13' R (.head _) (hpv.mono fun _ _ hx => hx.sees hs2) (by omega) S10 fun dvs w s11 hdv S11 => ?_
      clear S10
      have S12 := S11.perm (l' := (C.L, NsHas ((Str.ofString "due", Value.ref Dd) :: b6 jd ac fU fC a3 nn tn)) :: (87, Is (tabObj ps)) :: cellsE C.L (some (.ref d)) none none w td tw on rw ((Dd, ListIs dvs) :: (((Ds, ListIs pvs) :: (Dr, ListIs ys) :: new) ++ M))) (permIdx (es := [_, _, _, _, _, _, _, _, _, _, _]) [0, 3, 4, 5, 6, 1, 7, 8, 9, 10, 2] (by kernel_rfl))
      clear S11
      dsimp only
      repeat' walk_at "m:step"
      refine h Dd dvs ((Ds, ListIs pvs) :: (Dr, ListIs ys) :: new) w s11 ?_ S12
      have e : dueK C.w C.bel C.N i1 i2 = ks'.foldl (dueStep C.bel) [] := by rw [hks]; rfl
      rw [e]; exact hdv
end
end

section
theorem primeLaw8 : (fun (_ : OpenLaw) (_ : Params → Frag) => True) PySem.Challenge.rw_ft5005_01 hd.heap_39 := by k_fill; trivial
theorem LawCx.row_lt (C : LawCx) : ∀ i j, i < C.D.N → j < C.D.N → rowLt (C.D.row i) (C.D.row j) = decide ((i : Int) < (j : Int)) := by
  intro i j hi hj
  show rowLt (C.rows.getD i []) (C.rows.getD j []) = _
  rw [C.F.lt i j hi hj, Bool.eq_iff_iff, decide_eq_true_eq]
  rw [show (Nat.blt i j = true) = (i < j) from propext ⟨of_blt, fun h => Nat.ble_eq.mpr h⟩]
  omega
theorem LawCx.row_ne (C : LawCx) (hn : C.n = 3 ∨ C.n = 4) : ∀ k, k < C.D.N → C.D.row k ≠ [] := by
  intro k hk e
  have := C.F.len k hk
  rw [show C.rows.getD k [] = C.D.row k from rfl, e] at this
  simp at this; omega
theorem perm_sorted {a b a' b' : List Nat} (h : a.Perm b) (ha : a'.Perm a) (hb : b'.Perm b) (oa : a'.Pairwise fun (i j : Nat) => (i : Int) ≤ (j : Int)) (ob : b'.Pairwise fun (i j : Nat) => (i : Int) ≤ (j : Int)) : a' = b' :=
  ((ha.trans h).trans hb.symm).eq_of_pairwise (le := fun (i j : Nat) => (i : Int) ≤ (j : Int)) (fun a b _ _ h1 h2 => by omega) oa ob
section
variable {X : Cx} {g : Array GenState} {s : Shared} {l l' : List Ent} {A : Around} {E : Value → Shared → Prop} {env : Env}
theorem law_8 (C : LawCx) (hn : C.n = 3 ∨ C.n = 4) {body : List Stmt} {qual : Str} {scope : Scope} {cdv : Value} (hb : FnAt141 C.X.w.params body qual scope cdv) {s14 : Stmt} {rest : List Stmt} (h14 : body[14]? = some s14) (R : Rm A 100)
    {a1 a2 a3 fU fC ac jd Dd p : Addr} {i1 i2 : Nat} {ps : Array Value} {M : List Ent} {nn : Int} {tn : Tok} {tm pr rw : Option Value} {lvs dvs : List Value} {ks dks : List Nat}
    (hp : (p, ListIs lvs) ∈ M) (hv : All2 (RowV C.D M) lvs ks) (hD : (Dd, ListIs dvs) ∈ M) (hdv : All2 (RowV C.D M) dvs dks) (hperm : ks.Perm dks) (hdl : dks.length ≤ 24) (hac : (ac, ListIs [.ref a1, .ref a2]) ∈ M) (h1 : RowV C.D M (.ref a1) i1) (h2 : RowV C.D M (.ref a2) i2)
    (S : St C.X g s ((C.L, NsHas ((Str.ofString "due", .ref Dd) :: b6 jd ac fU fC a3 nn tn)) :: (87, Is (tabObj ps)) :: cellsE C.L tm none none pr (some (.ref p)) (some (.ref a2)) (some (.ref a1)) rw M)) {Q : Flow → Shared → Prop}
    (h : ∀ s', St C.X g s' ((C.L, NsHas ((Str.ofString "due", .ref Dd) :: b6 jd ac fU fC a3 nn tn)) :: (87, Is (tabObj ps)) :: cellsE C.L tm none none pr (some (.ref p)) (some (.ref a2)) (some (.ref a1)) rw M) →
      wpAny C.X.M A (execs rest (envX qual scope C.L 141 cdv (lawCs (C.L + 1)))) Q E s') :
    wpAny C.X.M A (execs (s14 :: rest) (envX qual scope C.L 141 cdv (lawCs (C.L + 1)))) Q E s := by
  obtain ⟨oc, od, name, params, dV, kV, doc, pm, an, ct, osl, h141⟩ := hb
  obtain ⟨rfl, rfl, rfl, rfl⟩ := fn141 _ h141 (by k_is)
  cases h14
  clear h141
  have hvl := hv.length
  have hdvl := hdv.length
  have hkl := hperm.length_eq
  repeat' walk_at "m:step"
  refine w_sortedRows (D := C.D) (key := fun i => (i : Int)) S (.tail _ (upC hp)) (hv.mono fun _ _ hx => hx.mono fun e he => .tail _ (upC he)) (by omega) (C.row_ne hn) C.row_lt fun D1 s1 v1 k1 S1 hv1 hp1 ho1 => ?_
  clear S
  repeat' walk_at "m:step"
  refine w_sortedRows (D := C.D) (key := fun i => (i : Int)) S1 (.tail _ (.tail _ (upC hD))) (hdv.mono fun _ _ hx => hx.mono fun e he => .tail _ (.tail _ (upC he))) (by omega) (C.row_ne hn) C.row_lt fun D2 s2 v2 k2 S2 hv2 hp2 ho2 => ?_
  clear S1
  repeat' walk_at "m:step"
  refine w_neKs C.dOk S2 (R.le (k := 100) (j := 30) (by omega)).u64 (.tail _ (.tail _ (.head _))) (.tail _ (.head _)) (hv1.mono fun _ _ hx => hx.mono fun e he => .tail _ (.tail _ (.tail _ he))) (hv2.mono fun _ _ hx => hx.mono fun e he => .tail _ (.tail _ he)) ?_
  rw [perm_sorted hperm hp1 hp2 ho1 ho2, decide_eq_true rfl]
  repeat' walk_at "m:step"
  rw [if_neg (by decide)]
  repeat' walk_at "m:step"
  refine w_newList S2 (by rw [sizeLine_eq]; simp) fun D3 s3 S3 => ?_
  clear S2
  repeat' walk_at "m:step"
  have up : M ⊆ (C.L, NsHas ((Str.ofString "due", .ref Dd) :: b6 jd ac fU fC a3 nn tn)) :: (D3, ListIs [.ref a1, .ref a2]) :: (D2, ListIs v2) :: (D1, ListIs v1) :: (87, Is (tabObj ps)) :: cellsE C.L tm none none pr (some (.ref p)) (some (.ref a2)) (some (.ref a1)) rw M := fun e he => up5 (upC he)
  refine w_neKs (ks := [i1, i2]) (js := [i1, i2]) C.dOk S3 (R.le (k := 100) (j := 30) (by omega)).u64 (up hac) (.tail _ (.head _)) (.cons (h1.mono up) (.cons (h2.mono up) .nil)) (.cons (h1.mono up) (.cons (h2.mono up) .nil)) ?_
  rw [decide_eq_true rfl]
  repeat' walk_at "m:step"
  rw [if_neg (by decide)]
  repeat' walk_at "m:step"
  rw [if_neg (by decide)]
  repeat' walk_at "m:step"
  refine h s3 (S3.sub ((((List.sublist_cons_self _ _).trans (List.sublist_cons_self _ _)).trans (List.sublist_cons_self _ _)).cons_cons _))
end
end

section
theorem primeLaw9 : (fun (_ : OpenLaw) (_ : Params → Frag) => True) PySem.Challenge.rw_ft5005_01 hd.heap_39 := by k_fill; trivial
section
variable {X : Cx} {g : Array GenState} {s : Shared} {l l' : List Ent} {A : Around} {E : Value → Shared → Prop} {env : Env}
theorem law_9 (C : LawCx) {body : List Stmt} {qual : Str} {scope : Scope} {cdv : Value} (hb : FnAt141 C.X.w.params body qual scope cdv) {s15 : Stmt} {rest : List Stmt} (h15 : body[15]? = some s15) (R : Rm A 100)
    {Rd d p : Addr} {ps : Array Value} {M : List Ent} {b : List (Str × Value)} {pr on tw rw : Option Value} {lvs rvs : List Value} {xs : Xs} {ks : List Nat} (B : C.Base M Rd d rvs xs)
    (hp : (p, ListIs lvs) ∈ M) (hv : All2 (RowV C.D M) lvs ks) (ho : ks.Pairwise fun i j => C.st i ≤ C.st j) (hkl : ks.length ≤ 24)
    (S : St C.X g s ((C.L, NsHas b) :: (87, Is (tabObj ps)) :: cellsE C.L (some (.ref d)) none none pr (some (.ref p)) tw on rw M)) {Q : Flow → Shared → Prop}
    (h : ∀ s', St C.X g s' ((C.L, NsHas b) :: (87, Is (tabObj ps)) :: cellsE C.L (some (.ref d)) none none pr (some (.ref p)) tw on rw M) →
      wpAny C.X.M A (execs rest (envX qual scope C.L 141 cdv (lawCs (C.L + 1)))) Q E s') :
    wpAny C.X.M A (execs (s15 :: rest) (envX qual scope C.L 141 cdv (lawCs (C.L + 1)))) Q E s := by
  obtain ⟨oc, od, name, params, dV, kV, doc, pm, an, ct, osl, h141⟩ := hb
  obtain ⟨rfl, rfl, rfl, rfl⟩ := fn141 _ h141 (by k_is)
  cases h15
  clear h141
  have hvl := hv.length
  have hd := B.hd
  repeat' walk_at "m:step"
  refine w_ListComp (cl := [(Str.ofString "told", C.L + 1 + 1 + 1 + 1), (Str.ofString "times", C.L + 1 + 1 + 1 + 1 + 1 + 1 + 1 + 1)]) (by rfl) ?_
  repeat' walk_at "m:step"
  rename St _ _ _ _ => S1
  try clear S
  refine w_lenList S1 (upFC hp) (by omega) fun s2 t2 S2 => ?_
  clear S1
  repeat' walk_at "m:step"
  rename St _ _ _ _ => S3
  try clear S2
  refine w_iterRange1 (n := lvs.length - 1) S3 (by omega) (by omega) (by omega) (by omega) (by omega) fun I s4 S4 => ?_
  clear S3
  refine w_compGo (It.range (A := A) R.hh I 1 1 (lvs.length - 1)) S4 fun Cc Dr s5 S5 => ?_
  clear S4
  refine w_compLoop (It.range (A := A) R.hh I 1 1 (lvs.length - 1)) (fun i ys l' => l' = _ ∧ ys = []) ?_ S5 ⟨rfl, rfl⟩ ?_ ?_ rfl rfl
  · rintro i ys l' ⟨rfl, rfl⟩
    exact ⟨fun _ hp => (nomatch hp), Nat.zero_le _⟩
  · rintro i v ys l' s6 hi ⟨t, rfl⟩ ⟨rfl, rfl⟩ S6
    clear S5
    rw [show ((1 : Int) + (i : Nat) * 1) = ((i + 1 : Nat) : Int) by push_cast; omega] at S6
    have up : ∀ {q1 q2 q3 : Ent}, M ⊆ q1 :: q2 :: q3 :: (C.L, NsHas b) :: (87, Is (tabObj ps)) :: cellsE C.L (some (.ref d)) none none pr (some (.ref p)) tw on rw M := fun {q1 q2 q3} e he => .tail _ (.tail _ (.tail _ (upFC he)))
    obtain ⟨k1, hk1, a1, q1, hN1, hm1⟩ := hv.get (i := i) (a := lvs[i]) (by simp)
    obtain ⟨k2, hk2, a2, q2, hN2, hm2⟩ := hv.get (i := i + 1) (a := lvs[i + 1]) (by simp)
    have hle : C.st k1 ≤ C.st k2 := by
      rw [List.pairwise_iff_getElem] at ho
      obtain ⟨e1, rfl⟩ := List.getElem?_eq_some_iff.mp hk1
      obtain ⟨e2, rfl⟩ := List.getElem?_eq_some_iff.mp hk2
      exact ho i (i + 1) e1 e2 (by omega)
    refine wpAny_tests_one ?_
    repeat' walk_at "m:step"
    rename St _ _ _ _ => S7
    try clear S6
    rw [show (((i + 1 : Nat) : Int) - 1) = ((i : Nat) : Int) by push_cast; omega]
    refine w_itemList S7 (up hp) (by omega) (by omega) (v := .ref a1) (by simp [← q1]) ?_
    refine w_dictTail S7 (up hd) (B.dF.sees (.of_sub up)) (up hm1) hN1 (i := C.st k1) rfl R.u1 fun s8 t8 S8 => ?_
    clear S7
    repeat' walk_at "m:step"
    refine w_itemList S8 (up hp) (by omega) (by omega) (v := .ref a2) (by simp [← q2]) ?_
    refine w_dictTail S8 (up hd) (B.dF.sees (.of_sub up)) (up hm2) hN2 (i := C.st k2) rfl R.u1 fun s9 t9 S9 => ?_
    clear S8
    repeat' walk_at "m:step"
    rw [if_neg (by rw [decide_eq_true_eq]; omega)]
    exact ⟨_, ⟨rfl, rfl⟩, S9.wk .here (NsHas.wk fun p hp => (nomatch hp))⟩
  · rintro ys l' s6 ⟨rfl, rfl⟩ S6
    clear S5
    refine compPost_none S6 fun s7 S7 => ?_
    clear S6
    repeat' walk_at "m:step"
    refine w_newList S7.swap (by rw [sizeLine_eq]; simp) fun D3 s8 S8 => ?_
    clear S7
    repeat' walk_at "m:step"
    refine w_neInts S8 (R.le (k := 100) (j := 30) (by omega)).u64 (by walk_at "m:mem") (by walk_at "m:mem") .nil .nil ?_
    rw [decide_eq_true rfl]
    repeat' walk_at "m:step"
    rw [if_neg (by decide)]
    repeat' walk_at "m:step"
    exact h s8 (S8.sub (((List.sublist_cons_self _ _).trans (List.sublist_cons_self _ _)).cons_cons _))
end
end

section
theorem primeLaw11 : (fun (_ : OpenLaw) (_ : Params → Frag) => True) PySem.Challenge.rw_ft5005_01 hd.heap_39 := by k_fill; trivial
/-- the law's cells but k -/
abbrev cellsK (L : Addr) (tm sm pr td tw on rw : Option Value) (M : List Ent) : List Ent :=
  (L + 1 + 1 + 1 + 1 + 1 + 1 + 1 + 1, CellHas tm) :: (L + 1 + 1 + 1 + 1 + 1 + 1 + 1, CellHas sm) :: (L + 1 + 1 + 1 + 1 + 1, CellHas pr) :: (L + 1 + 1 + 1 + 1, CellHas td) :: (L + 1 + 1 + 1, CellHas tw) :: (L + 1 + 1, CellHas on) :: (L + 1, CellHas rw) :: M
theorem upK {L : Addr} {tm sm pr td tw on rw : Option Value} {M : List Ent} : M ⊆ cellsK L tm sm pr td tw on rw M := fun _ he => .tail _ (.tail _ (.tail _ (.tail _ (.tail _ (.tail _ (.tail _ he))))))
theorem all_not {f : Nat → Bool} {n : Nat} : ((List.range n).all fun j => !f j) = !((List.range n).any f) := by
  rw [Bool.eq_iff_iff, List.all_eq_true, Bool.not_eq_true', List.any_eq_false]
  exact ⟨fun h x hx => by simpa using h x hx, fun h x hx => by simpa using h x hx⟩
abbrev b3 (fU fC a3 : Addr) : List (Str × Value) := [(Str.ofString "clock", .ref fC), (Str.ofString "up", .ref fU), (Str.ofString "three", .ref a3)]
section
variable {X : Cx} {g : Array GenState} {s : Shared} {l l' : List Ent} {A : Around} {E : Value → Shared → Prop} {env : Env}
theorem law_11 (C : LawCx) {body : List Stmt} {qual : Str} {scope : Scope} {cdv : Value} (hb : FnAt141 C.X.w.params body qual scope cdv) {s17 s18 s19 : Stmt} {rest : List Stmt} (h17 : body[17]? = some s17) (h18 : body[18]? = some s18) (h19 : body[19]? = some s19) (R : Rm A 100)
    {a1 a2 a3 fU fC : Addr} {i1 i2 i3 : Nat} {ps : Array Value} {M : List Ent} {tm pr td rw : Option Value} (h1 : RowV C.D M (.ref a1) i1) (h2 : RowV C.D M (.ref a2) i2) (h3 : RowV C.D M (.ref a3) i3)
    (S : St C.X g s ((C.L, NsHas (b3 fU fC a3)) :: (87, Is (tabObj ps)) :: cellsE C.L tm none none pr td (some (.ref a2)) (some (.ref a1)) rw M)) {Q : Flow → Shared → Prop}
    (h : ∀ sd ld fvs w s', All2 (RowV C.D M) fvs (indUpto (belK C.bel) [i1, i2, i3] 3) →
      St C.X g s' ((C.L, NsHas ((Str.ofString "left", .ref ld) :: b3 fU fC a3)) :: (87, Is (tabObj ps)) :: cellsE C.L tm (some (.ref sd)) w pr td (some (.ref a2)) (some (.ref a1)) rw ((ld, ListIs fvs) :: (sd, ListIs [.ref a1, .ref a2, .ref a3]) :: M)) →
      wpAny C.X.M A (execs rest (envX qual scope C.L 141 cdv (lawCs (C.L + 1)))) Q E s') :
    wpAny C.X.M A (execs (s17 :: s18 :: s19 :: rest) (envX qual scope C.L 141 cdv (lawCs (C.L + 1)))) Q E s := by
  obtain ⟨oc, od, name, params, dV, kV, doc, pm, an, ct, osl, h141⟩ := hb
  obtain ⟨rfl, rfl, rfl, rfl⟩ := fn141 _ h141 (by k_is)
  cases h17; cases h18; cases h19
  clear h141
  have hall : All2 (RowV C.D M) [Value.ref a1, .ref a2, .ref a3] [i1, i2, i3] := .cons h1 (.cons h2 (.cons h3 .nil))
  repeat' walk_at "m:step"
  refine w_newList S (by rw [sizeLine_eq]; simp) fun sd s1 S1 => ?_
  clear S
  replace S1 := (S1.perm (permIdx (es := [_, _, _]) [0, 2, 1] (by kernel_rfl))).perm (backC (new := []))
  refine w_storeCell (c := C.L + 1 + 1 + 1 + 1 + 1 + 1 + 1) S1 rfl updSome fun s2 S2 => ?_
  clear S1
  repeat' walk_at "m:step"
  refine w_newList S2 (by rw [sizeLine_eq]; simp) fun ld s3 S3 => ?_
  clear S2
  repeat' walk_at "m:step"
  rename St _ _ _ _ => S4
  try clear S3
  refine w_For ?_
  repeat' walk_at "m:step"
  rename St _ _ _ _ => S5
  try clear S4
  refine w_iterRange1 (n := 3) S5 (by omega) (by omega) (by omega) (by omega) (by omega) fun I s6 S6 => ?_
  clear S5
  have S7 : St C.X g s6 ((I, RIterIs (0 + ((0 : Nat) : Int) * 1) (((3 : Nat) : Int) - ((0 : Nat) : Int)) 1) :: (C.L, NsHas ((Str.ofString "left", .ref ld) :: b3 fU fC a3)) :: (C.L + 1 + 1 + 1 + 1 + 1 + 1, CellHas none) :: (ld, ListIs []) :: (87, Is (tabObj ps)) :: cellsK C.L tm (some (.ref sd)) pr td (some (.ref a2)) (some (.ref a1)) rw ((sd, ListIs [.ref a1, .ref a2, .ref a3]) :: M)) :=
    S6.perm (permIdx (es := [_, _, _, _, _, _, _, _, _, _, _, _]) [0, 1, 6, 2, 3, 4, 5, 7, 8, 9, 10, 11] (by kernel_rfl))
  clear S6
  refine w_forLoopC (c := C.L + 1 + 1 + 1 + 1 + 1 + 1) (It.range (A := A) R.hh I 0 1 3) (fun i b l' => b = (Str.ofString "left", .ref ld) :: b3 fU fC a3 ∧ (∃ fvs, l' = (ld, ListIs fvs) :: (87, Is (tabObj ps)) :: cellsK C.L tm (some (.ref sd)) pr td (some (.ref a2)) (some (.ref a1)) rw ((sd, ListIs [.ref a1, .ref a2, .ref a3]) :: M) ∧ All2 (RowV C.D M) fvs (indUpto (belK C.bel) [i1, i2, i3] i)) ∧ i ≤ 3) (fun _ _ _ _ _ hp => nomatch hp) S7
    ⟨rfl, ⟨[], rfl, .nil⟩, by omega⟩ ?_ ?_ rfl
  · rintro i v b l' s8 hi ⟨ti, rfl⟩ ⟨rfl, ⟨fvs, rfl, hfv⟩, _⟩ S8
    simp only [Int.zero_add, Int.mul_one] at S8 ⊢
    clear S7
    have hfl := indUpto_len (belK C.bel) [i1, i2, i3] i
    have hfl2 := hfv.length
    obtain ⟨va, hva, hra⟩ := hall.get' (i := i) (b := [i1, i2, i3].getD i 0) (by rw [List.getD_eq_getElem?_getD, List.getElem?_eq_getElem (by simpa using hi)]; rfl)
    obtain ⟨pa, rfl, hN, hma⟩ := hra
    repeat' walk_at "m:step"
    refine w_ListComp (cl := [(Str.ofString "some", C.L + 1 + 1 + 1 + 1 + 1 + 1 + 1), (Str.ofString "k", C.L + 1 + 1 + 1 + 1 + 1 + 1)]) (by rfl) ?_
    repeat' walk_at "m:step"
    rename St _ _ _ _ => S9
    try clear S8
    refine w_iterRange1 (n := 3) S9 (by omega) (by omega) (by omega) (by omega) (by omega) fun I2 s10 S10 => ?_
    clear S9
    refine w_compGo (It.range (A := A) R.hh I2 0 1 3) S10 fun Cc Dr s11 S11 => ?_
    clear S10
    refine w_compLoop (It.range (A := A) R.hh I2 0 1 3) (fun j ys l' => l' = _ ∧ IntsAre ys (filt (indHit (belK C.bel) [i1, i2, i3] i) j) ∧ j ≤ 3) ?_ S11 ⟨rfl, .nil, Nat.zero_le _⟩ ?_ ?_ rfl rfl
    · rintro j ys l' ⟨rfl, hys, hj⟩
      refine ⟨fun _ hp => (nomatch hp), ?_⟩
      have := filt_len (indHit (belK C.bel) [i1, i2, i3] i) j
      rw [hys.length, sizeLine_eq]; omega
    · rintro j v ys l' s12 hj ⟨tj, rfl⟩ ⟨rfl, hys, _⟩ S12
      simp only [Int.zero_add, Int.mul_one] at S12 ⊢
      clear S11
      obtain ⟨vb, hvb, hrb⟩ := hall.get' (i := j) (b := [i1, i2, i3].getD j 0) (by rw [List.getD_eq_getElem?_getD, List.getElem?_eq_getElem (by simpa using hj)]; rfl)
      obtain ⟨pb, rfl, hNb, hmb⟩ := hrb
      have up : ∀ {q1 q2 q3 q4 q5 q6 q7 q8 : Ent}, M ⊆ q1 :: q2 :: q3 :: q4 :: q5 :: q6 :: q7 :: q8 :: cellsK C.L tm (some (.ref sd)) pr td (some (.ref a2)) (some (.ref a1)) rw ((sd, ListIs [.ref a1, .ref a2, .ref a3]) :: M) := fun {q1 q2 q3 q4 q5 q6 q7 q8} e he => up3 (up5 (upK (.tail _ he)))
      refine wpAny_tests_one ?_
      repeat' walk_at "m:step"
      by_cases e : j = i
      · rw [if_neg (by simp [e]), if_neg (by decide)]
        refine ⟨_, ⟨rfl, ?_, by omega⟩, S12.wk .here (NsHas.wk fun p hp => (nomatch hp))⟩
        have hh : indHit (belK C.bel) [i1, i2, i3] i j = false := by unfold indHit; rw [decide_eq_true e.symm]; rfl
        rw [filt_succ, if_neg (by rw [hh]; decide)]
        exact hys
      · rw [if_pos (by rw [bne_iff_ne]; exact fun q => e (by exact_mod_cast q))]
        repeat' walk_at "m:step"
        refine w_itemList S12 (by walk_at "m:mem") (by omega) (by omega) (v := .ref pa) (by simpa using hva) ?_
        repeat' walk_at "m:step"
        refine w_itemList S12 (by walk_at "m:mem") (by omega) (by omega) (v := .ref pb) (by simpa using hvb) ?_
        repeat' walk_at "m:step"
        refine L_bel C S12 (R.le (by omega)) (⟨pa, rfl, hN, up hma⟩ : RowV C.D _ (.ref pa) ([i1, i2, i3].getD i 0)) (⟨pb, rfl, hNb, up hmb⟩ : RowV C.D _ (.ref pb) ([i1, i2, i3].getD j 0)) fun s13 S13 => ?_
        clear S12
        repeat' walk_at "m:step"
        have hh : indHit (belK C.bel) [i1, i2, i3] i j = belK C.bel ([i1, i2, i3].getD i 0) ([i1, i2, i3].getD j 0) := by unfold indHit; rw [decide_eq_false (fun q => e q.symm)]; rfl
        cases g1 : belK C.bel ([i1, i2, i3].getD i 0) ([i1, i2, i3].getD j 0) with
        | false =>
          rw [if_neg (by decide), if_neg (by decide)]
          exact ⟨_, ⟨rfl, by rw [filt_succ, if_neg (by rw [hh, g1]; decide)]; exact hys, by omega⟩, S13.wk .here (NsHas.wk fun p hp => (nomatch hp))⟩
        | true =>
          rw [if_pos rfl]
          repeat' walk_at "m:step"
          rw [if_pos rfl]
          repeat' walk_at "m:step"
          exact ⟨_, ⟨rfl, by rw [filt_succ, if_pos (by rw [hh, g1])]; exact intsAre_snoc hys _ _, by omega⟩, S13.wk .here (NsHas.wk fun p hp => (nomatch hp))⟩
    · rintro ys l' s12 ⟨rfl, hys, _⟩ S12
      clear S11
      refine compPost_none S12 fun s13 S13 => ?_
      clear S12
      repeat' walk_at "m:step"
      refine w_newList S13.swap (by rw [sizeLine_eq]; simp) fun D3 s14 S14 => ?_
      clear S13
      repeat' walk_at "m:step"
      refine w_eqInts S14 (R.le (k := 100) (j := 30) (by omega)).u64 (by walk_at "m:mem") (by walk_at "m:mem") hys .nil ?_
      rw [filt_nil, all_not]
      have S15 : St C.X g s14 ((C.L, NsHas ((Str.ofString "left", .ref ld) :: b3 fU fC a3)) :: (C.L + 1 + 1 + 1 + 1 + 1 + 1, CellHas (some (.int (i : Nat) ti))) :: (I, RIterIs ((i + 1 : Nat) : Int) (((3 : Nat) : Int) - ((i + 1 : Nat) : Int)) 1) :: (ld, ListIs fvs) :: (87, Is (tabObj ps)) :: cellsK C.L tm (some (.ref sd)) pr td (some (.ref a2)) (some (.ref a1)) rw ((sd, ListIs [.ref a1, .ref a2, .ref a3]) :: M)) :=
        S14.sub (((List.sublist_cons_self _ _).trans (List.sublist_cons_self _ _)).cons_cons _)
      clear S14
      repeat' walk_at "m:step"
      have hk : indKeep (belK C.bel) [i1, i2, i3] i = !((List.range 3).any (indHit (belK C.bel) [i1, i2, i3] i)) := rfl
      rw [← hk]
      cases g1 : indKeep (belK C.bel) [i1, i2, i3] i with
      | false =>
        rw [if_neg (by decide)]
        repeat' walk_at "m:step"
        exact ⟨_, _, _, ⟨rfl, ⟨fvs, rfl, by rw [indUpto_succ, g1, if_neg (by decide)]; exact hfv⟩, by omega⟩, S15⟩
      | true =>
        rw [if_pos rfl]
        repeat' walk_at "m:step"
        refine w_itemList S15 (by walk_at "m:mem") (by omega) (by omega) (v := .ref pa) (by simpa using hva) ?_
        repeat' walk_at "m:step"
        refine w_append S15 (.there (.there (.there .here))) (by rw [sizeLine_eq]; omega) fun s16 S16 => ?_
        clear S15
        dsimp only
        repeat' walk_at "m:step"
        exact ⟨_, _, _, ⟨rfl, ⟨_, rfl, by rw [indUpto_succ, g1, if_pos rfl]; exact hfv.append (.cons ⟨pa, rfl, hN, hma⟩ .nil)⟩, by omega⟩, S16⟩
  · rintro b l' s8 w ⟨rfl, ⟨fvs, rfl, hfv⟩, _⟩ S8
    dsimp only
    repeat' walk_at "m:step"
    exact h sd ld fvs w s8 hfv (S8.perm (permIdx (es := [_, _, _, _, _, _, _, _, _, _, _]) [0, 3, 4, 5, 1, 6, 7, 8, 9, 10, 2] (by kernel_rfl)))
end
end

section
theorem primeLaw12 : (fun (_ : OpenLaw) (_ : Params → Frag) => True) PySem.Challenge.rw_ft5005_01 hd.heap_39 := by k_fill; trivial
local macro_rules | `(tactic| walk_at "m:step") => `(tactic| first
  | ((with_reducible refine gd33 ?_); refine PyProof.Rows.BoolOp_and ?_)
  | ((with_reducible refine gd34 ?_); refine PyProof.Rows.BoolOp_one ?_))
section
variable {X : Cx} {g : Array GenState} {s : Shared} {l l' : List Ent} {A : Around} {E : Value → Shared → Prop} {env : Env}
theorem law_10 {X : Cx} {L : Addr} {body : List Stmt} {qual : Str} {scope : Scope} {cdv : Value} (hb : FnAt141 X.w.params body qual scope cdv) {s16 : Stmt} {rest : List Stmt} (h16 : body[16]? = some s16)
    {n : Nat} {tn : Tok} {b : List (Str × Value)} (hbn : b.lookup (Str.ofString "n") = some (.int (n : Nat) tn)) (S : St X g s ((L, NsHas b) :: l)) {Q : Flow → Shared → Prop}
    (h4 : n = 4 → ∀ s', St X g s' ((L, NsHas b) :: l) → Q (.ret (.bool true)) s') (h3 : n ≠ 4 → ∀ s', St X g s' ((L, NsHas b) :: l) → wpAny X.M A (execs rest (envX qual scope L 141 cdv (lawCs (L + 1)))) Q E s') :
    wpAny X.M A (execs (s16 :: rest) (envX qual scope L 141 cdv (lawCs (L + 1)))) Q E s := by
  obtain ⟨oc, od, name, params, dV, kV, doc, pm, an, ct, osl, h141⟩ := hb
  obtain ⟨rfl, rfl, rfl, rfl⟩ := fn141 _ h141 (by k_is)
  cases h16
  clear h141
  repeat' walk_at "m:step"
  refine w_local (by assumption) hbn ?_
  repeat' walk_at "m:step"
  rename St _ _ _ _ => S1
  by_cases e : n = 4
  · rw [if_pos (by rw [beq_iff_eq]; omega)]
    repeat' walk_at "m:step"
    exact h4 e _ S1
  · rw [if_neg (by rw [beq_iff_eq]; omega)]
    repeat' walk_at "m:step"
    exact h3 e _ S1
theorem law_12 (C : LawCx) {body : List Stmt} {qual : Str} {scope : Scope} {cdv : Value} (hb : FnAt141 C.X.w.params body qual scope cdv) {s20 : Stmt} (h20 : body[20]? = some s20) (R : Rm A 100)
    {d a1 a2 a3 fU fC sd ld : Addr} {i1 i2 i3 : Nat} {ps : Array Value} {M : List Ent} {k pr td rw : Option Value} {fvs : List Value} (hbg : AllBare g) (T : TabOk M ps lcPq) (Cb : Calls C M d fU fC) (h1 : RowV C.D M (.ref a1) i1) (h2 : RowV C.D M (.ref a2) i2) (h3 : RowV C.D M (.ref a3) i3)
    (hsd : (sd, ListIs [.ref a1, .ref a2, .ref a3]) ∈ M) (hld : (ld, ListIs fvs) ∈ M) (hfv : All2 (RowV C.D M) fvs (indUpto (belK C.bel) [i1, i2, i3] 3))
    (S : St C.X g s ((C.L, NsHas ((Str.ofString "left", .ref ld) :: b3 fU fC a3)) :: (87, Is (tabObj ps)) :: cellsE C.L (some (.ref d)) (some (.ref sd)) k pr td (some (.ref a2)) (some (.ref a1)) rw M)) {Q : Flow → Shared → Prop}
    (h : ∀ ps' M' s' g', AllBare g' → M ⊆ M' → St C.X g' s' ((C.L, NsHas ((Str.ofString "left", .ref ld) :: b3 fU fC a3)) :: (87, Is (tabObj ps')) :: cellsE C.L (some (.ref d)) (some (.ref sd)) k pr td (some (.ref a2)) (some (.ref a1)) rw M') → Q (.ret (.bool true)) s') :
    wpAny C.X.M A (execs [s20] (envX qual scope C.L 141 cdv (lawCs (C.L + 1)))) Q E s := by
  obtain ⟨oc, od, name, params, dV, kV, doc, pm, an, ct, osl, h141⟩ := hb
  obtain ⟨rfl, rfl, rfl, rfl⟩ := fn141 _ h141 (by k_is)
  cases h20
  clear h141
  repeat' walk_at "m:step"
  refine w_listList S (by walk_at "m:mem") (by simp) fun sd2 s1 S1 => ?_
  clear S
  replace S1 := (S1.perm (permIdx (es := [_, _, _]) [0, 2, 1] (by kernel_rfl))).perm (backC (new := []))
  repeat' walk_at "m:step"
  refine c_ind (D := C.D) (P := C.P 0) (ks := [i1, i2, i3]) (B := belK C.bel) S1 (R.le (by omega)) hbg (T.sub fun e he => upC (.tail _ he)) (upC (.head _))
    (.cons (h1.mono fun e he => upC (.tail _ he)) (.cons (h2.mono fun e he => upC (.tail _ he)) (.cons (h3.mono fun e he => upC (.tail _ he)) .nil))) (by simp) (by simp) (Cb 0 _ (fun e he => upC (.tail _ he)) (.head _)) (C.dP 0) C.skip0 ?_ fun p rvs ps' new s2 g2 hb2 S2 T2 hr => ?_
  · intro k1 k2 n1 n2
    obtain ⟨q1, q2⟩ := C.chk n1 n2
    by_cases e : k1 = k2
    · exact ⟨0, ⟨0, [], []⟩, fun _ => (q1 e).1, fun ne => absurd e ne⟩
    · obtain ⟨st, r1, r2, _, r4⟩ := mb_of (q2 e).1
      exact ⟨60, st, fun e' => absurd e' e, fun _ => ⟨r1, r2, r4.symm⟩⟩
  · clear S1
    replace S2 := S2.perm backC
    have T3 := T2.cells
    have hr2 := rowV_new hr
    repeat' walk_at "m:step"
    refine w_eqKs (js := indUpto (belK C.bel) [i1, i2, i3] 3) C.dOk S2 (R.le (k := 100) (j := 30) (by omega)).u64 (upFC (.head _)) (upFC (.tail _ (List.mem_append_right _ (.tail _ hld)))) (hr2.mono fun _ _ hx => hx.mono fun e he => upFC (.tail _ he))
      (hfv.mono fun _ _ hx => hx.mono fun e he => upFC (.tail _ (List.mem_append_right _ (.tail _ he)))) ?_
    rw [show ([i1, i2, i3] : List Nat).length = 3 from rfl, decide_eq_true rfl]
    repeat' walk_at "m:step"
    rw [if_pos rfl]
    repeat' walk_at "m:step"
    have upM : M ⊆ (p, ListIs rvs) :: (new ++ (sd2, ListIs [Value.ref a1, .ref a2, .ref a3]) :: ([] ++ M)) := fun e he => .tail _ (List.mem_append_right _ (.tail _ he))
    refine L_cff C S2 (R.le (by omega)) hb2 (T3.sub fun e he => .tail _ he) (fun m l hl => Cb m l fun e he => hl (upM he)) (h2.mono upM) (h3.mono upM) fun ps2 new2 s3 g3 hb3 T4 S3 => ?_
    clear S2
    repeat' walk_at "m:step"
    refine L_bel C S3 (R.le (by omega)) (h2.mono fun e he => upFC (List.mem_append_right _ (upM he))) (h3.mono fun e he => upFC (List.mem_append_right _ (upM he))) fun s4 S4 => ?_
    clear S3
    repeat' walk_at "m:step"
    refine PyProof.Rows.eq_bool ?_
    rw [beq_self_eq_true]
    repeat' walk_at "m:step"
    exact h ps2 _ s4 g3 hb3 (fun e he => List.mem_append_right _ (upM he)) S4
end
end

section
theorem primeLawW : (fun (_ : OpenLaw) (_ : Params → Frag) => True) PySem.Challenge.rw_ft5005_01 hd.heap_39 := by k_fill; trivial
theorem LawCx.due_len (C : LawCx) (i j : Nat) : (dueK C.w C.bel C.N i j).length ≤ 24 := by
  unfold dueK
  refine Nat.le_trans (dueStep_len _ _ _) ?_
  have h1 := List.length_filter_le (fun k => belK C.bel k i && belK C.bel k j) (orderK C.w C.N)
  have h2 := C.F.ordP.length_eq
  have h3 := C.F.le
  simp only [List.length_range] at h2
  simp only [List.length_nil]; omega
section
variable {X : Cx} {g : Array GenState} {s : Shared} {l l' : List Ent} {A : Around} {E : Value → Shared → Prop} {env : Env}
theorem law_rest (C : LawCx) (hn : C.n = 3 ∨ C.n = 4) {body : List Stmt} {qual : Str} {scope : Scope} {cdv : Value} (hb : FnAt141 C.X.w.params body qual scope cdv) {s3 s4 s5 s6 s7 s8 s9 s10 s11 s12 s13 s14 s15 s16 s17 s18 s19 s20 : Stmt}
    (h3 : body[3]? = some s3) (h4 : body[4]? = some s4) (h5 : body[5]? = some s5) (h6 : body[6]? = some s6) (h7 : body[7]? = some s7) (h8 : body[8]? = some s8) (h9 : body[9]? = some s9) (h10 : body[10]? = some s10) (h11 : body[11]? = some s11) (h12 : body[12]? = some s12) (h13 : body[13]? = some s13) (h14 : body[14]? = some s14) (h15 : body[15]? = some s15) (h16 : body[16]? = some s16) (h17 : body[17]? = some s17) (h18 : body[18]? = some s18) (h19 : body[19]? = some s19) (h20 : body[20]? = some s20) (R : Rm A 100)
    {fd Rd : Addr} {us : List Value} {ms : List Int} {rvs : List Value} {tn : Tok} {M : List Ent} (hbg : AllBare g) (h138 : (138, Is (tabObj #[])) ∈ M) (hfd : (fd, ListIs us) ∈ M) (hus : IntsAre us ms) (hms : ms.length = 5) (hT : C.T = 1 + absI (ms.getD 4 0))
    (hR : (Rd, ListIs rvs) ∈ M) (hrv : RowsAre M rvs C.rows)
    (S : St C.X g s ((C.L, NsHas [(Str.ofString "n", .int (C.n : Nat) tn), (Str.ofString "found", .ref fd)]) :: (87, Is (tabObj #[])) :: cellsE C.L none none none none none none none (some (.ref Rd)) M)) {Q : Flow → Shared → Prop}
    (fin : ∀ {s' g' b tm sm k pr td tw on rw M' ps1}, AllBare g' → (∃ q, (138, Is (tabObj q)) ∈ M') → St C.X g' s' ((C.L, NsHas b) :: (87, Is (tabObj ps1)) :: cellsE C.L tm sm k pr td tw on rw M') → Q (.ret (.bool true)) s') :
    wpAny C.X.M A (execs [s3, s4, s5, s6, s7, s8, s9, s10, s11, s12, s13, s14, s15, s16, s17, s18, s19, s20] (envX qual scope C.L 141 cdv (lawCs (C.L + 1)))) Q E s := by
  refine law_1 C hb h3 h4 R rfl hfd hus hms hT hR hrv S fun d xs s1 B S1 => ?_
  clear S
  refine law_2 C hb h5 R (.tail _ hfd) hus hms B S1 fun a1 a2 a3 i1 i2 i3 s2 r1 r2 r3 S2 => ?_
  clear S1
  refine law_3 C hb h6 h7 R B (.tail _ h138) S2 fun fU fC M3 s3 B3 sees3 Cb3 h138' S3 => ?_
  clear S2
  obtain ⟨q138, h138'⟩ := h138'
  have r1 := r1.sees sees3
  have r2 := r2.sees sees3
  have r3 := r3.sees sees3
  refine law_4 C hb h8 R hbg TabOk.nil Cb3 r1 r2 S3 fun ps4 new4 s4 g4 hb4 T4 S4 => ?_
  clear S3
  have u4 : M3 ⊆ new4 ++ M3 := fun e he => List.mem_append_right _ he
  refine law_5 C hb h9 h10 R hb4 T4 (fun m l hl => Cb3 m l fun e he => hl (u4 he)) (r1.mono u4) (r2.mono u4) S4 fun ac p lvs ks ps5 new5 s5 g5 hb5 T5 hv5 hp5 ho5 S5 => ?_
  clear S4
  have u5 : M3 ⊆ (p, ListIs lvs) :: (new5 ++ (ac, ListIs [.ref a1, .ref a2]) :: (new4 ++ M3)) := fun e he => .tail _ (List.mem_append_right _ (.tail _ (u4 he)))
  have hac : (ac, ListIs [.ref a1, .ref a2]) ∈ (p, ListIs lvs) :: (new5 ++ (ac, ListIs [.ref a1, .ref a2]) :: (new4 ++ M3)) := .tail _ (List.mem_append_right _ (.head _))
  have hpM : (p, ListIs lvs) ∈ (p, ListIs lvs) :: (new5 ++ (ac, ListIs [.ref a1, .ref a2]) :: (new4 ++ M3)) := .head _
  have hv := hv5.mono fun _ _ hx => hx.mono (up1 (a := (p, ListIs lvs)))
  have T5' := T5.sub (up1 (a := (p, ListIs lvs)))
  generalize (p, ListIs lvs) :: (new5 ++ (ac, ListIs [.ref a1, .ref a2]) :: (new4 ++ M3)) = M5 at *
  clear hv5 T5 T4
  refine law_6 C hb h11 R (B3.mono u5) (r1.mono u5) (r2.mono u5) S5 fun jd js s6 hjs S6 => ?_
  clear S5
  refine law_7 C hb h12 h13 R ((B3.mono u5).mono up1) (.head _) (hjs.mono fun _ _ hx => hx.mono up1) S6 fun Dd dvs new7 w s7 hdv S7 => ?_
  clear S6
  have u7 : M5 ⊆ (Dd, ListIs dvs) :: (new7 ++ (jd, ListIs js) :: M5) := fun e he => .tail _ (List.mem_append_right _ (.tail _ he))
  have hDd : (Dd, ListIs dvs) ∈ (Dd, ListIs dvs) :: (new7 ++ (jd, ListIs js) :: M5) := .head _
  have hdv' := hdv.mono fun _ _ hx => hx.mono (up1 (a := (Dd, ListIs dvs)))
  generalize (Dd, ListIs dvs) :: (new7 ++ (jd, ListIs js) :: M5) = M7 at *
  clear hdv
  have u57 : M3 ⊆ M7 := fun e he => u7 (u5 he)
  refine law_8 C hn hb h14 R (u7 hpM) (hv.mono fun _ _ hx => hx.mono u7) hDd hdv' hp5 (C.due_len i1 i2) (u7 hac) (r1.mono u57) (r2.mono u57) S7 fun s8 S8 => ?_
  clear S7
  refine law_9 C hb h15 R (B3.mono u57) (u7 hpM) (hv.mono fun _ _ hx => hx.mono u7) ho5 (by rw [hp5.length_eq]; exact C.due_len i1 i2) S8 fun s9 S9 => ?_
  clear S8
  refine law_10 hb h16 (n := C.n) (tn := tn) (by rfl) S9 (fun _ s10 S10 => fin hb5 ⟨q138, u57 h138'⟩ S10) fun _ s10 S10 => ?_
  clear S9
  have S11 : St C.X g5 s10 ((C.L, NsHas (b3 fU fC a3)) :: (87, Is (tabObj ps5)) :: cellsE C.L (some (.ref d)) none none w (some (.ref p)) (some (.ref a2)) (some (.ref a1)) (some (.ref Rd)) M7) := S10.wk .here (NsHas.wk fun p hp => by
    simp only [List.mem_cons, List.not_mem_nil, or_false] at hp
    rcases hp with rfl | rfl | rfl <;> rfl)
  clear S10
  refine law_11 C hb h17 h18 h19 R (r1.mono u57) (r2.mono u57) (r3.mono u57) S11 fun sd ld fvs w2 s12 hfv S12 => ?_
  clear S11
  have u12 : M7 ⊆ (ld, ListIs fvs) :: (sd, ListIs [.ref a1, .ref a2, .ref a3]) :: M7 := up2
  have u312 : M3 ⊆ (ld, ListIs fvs) :: (sd, ListIs [.ref a1, .ref a2, .ref a3]) :: M7 := fun e he => u12 (u57 he)
  refine law_12 C hb h20 R hb5 (T5'.sub fun e he => u12 (u7 he)) (fun m l hl => Cb3 m l fun e he => hl (u312 he)) (r1.mono u312) (r2.mono u312) (r3.mono u312) (.tail _ (.head _)) (.head _) (hfv.mono fun _ _ hx => hx.mono u12) S12 fun ps13 M13 s13 g13 hb13 u13 S13 => ?_
  exact fin hb13 ⟨q138, u13 (u312 h138')⟩ S13
theorem c_law {sc : Addr} {vs : List Value} {ns : List Int} {Q : Value → Shared → Prop} (S : St X g s [(87, Is (tabObj #[])), (138, Is (tabObj #[]))]) (R : Rm A 101) (hbg : AllBare g) (hs : X.hT.IsList sc vs.toArray) (hi : IntsAre vs ns) (h63 : ns.length ≤ 63)
    (h : ∀ s' g' ps1 ps2, AllBare g' → St X g' s' [(87, Is (tabObj ps1)), (138, Is (tabObj ps2))] → Q (.bool true) s') : wpAny X.M A (call (.ref 141) [.ref sc] []) Q E s := by
  refine' w_defC (binds := [(Str.ofString "script", .ref sc)]) (cs := lawCs) S R ?ho ?hcd ?hbind ?hcs ?hnd ?h ?hkind ?hsome ?hco ?hgen ?hk
  case ho => k_is
  case hcd => k_is
  case hbind => exact BindsTo.of_eq rfl
  case hcs => intro n; rfl
  case hnd => decide
  case hkind => rfl
  case hsome => exact some_of_names (cs := lawCs) fun n => rfl
  case hco => rfl
  case hgen => rfl
  case hk => rfl
  intro L s1 S1
  have S2 : St X g s1 ((L, NsHas [(Str.ofString "script", .ref sc)]) :: (87, Is (tabObj #[])) :: cellsE L none none none none none none none none [(138, Is (tabObj #[]))]) :=
    St.perm (l := (L, NsHas [(Str.ofString "script", .ref sc)]) :: cellsE L none none none none none none none none [(87, Is (tabObj #[])), (138, Is (tabObj #[]))]) S1 (permIdx (es := [_, _, _, _, _, _, _, _, _, _]) [0, 9, 1, 2, 3, 4, 5, 6, 7, 8] (by kernel_rfl))
  clear S1 S
  have RA : ∀ {e : Env}, Rm (A.deeper e) 100 := fun {e} => R.deeper e
  refine law_0 (FnAt141.mk (by k_is)) (by exact rfl) (by exact rfl) (by exact rfl) RA hs hi h63 S2 fun {n rowsT w par bel N} F hn fd Rd us ms rvs t M s3 hM hfd hus hms hR hrv S3 => ?_
  clear S2
  have hT1 : (1 : Int) ≤ 1 + absI (ms.getD 4 0) := by have := absI_nn (ms.getD 4 0); omega
  have h138 : (138, Is (tabObj #[])) ∈ M := hM (.head _)
  have fin : ∀ {s' g' b tm sm k pr td tw on rw M' ps1}, AllBare g' → (∃ q, (138, Is (tabObj q)) ∈ M') → St X g' s' ((L, NsHas b) :: (87, Is (tabObj ps1)) :: cellsE L tm sm k pr td tw on rw M') → Q (.bool true) s' := by
    rintro s' g' b tm sm k pr td tw on rw M' ps1 hb' ⟨q, hq⟩ S'
    refine h s' g' ps1 q hb' (S'.pick (fun p hp => ?_) (by simp))
    rcases List.mem_cons.mp hp with rfl | hp
    · exact .tail _ (.head _)
    · rcases List.mem_singleton.mp hp with rfl
      exact upFC hq
  refine law_rest (C := ⟨X, n, rowsT, w, par, bel, N, F, 1 + absI (ms.getD 4 0), hT1, L⟩) hn (FnAt141.mk (by k_is)) (by exact rfl) (by exact rfl) (by exact rfl) (by exact rfl) (by exact rfl) (by exact rfl) (by exact rfl) (by exact rfl) (by exact rfl) (by exact rfl) (by exact rfl) (by exact rfl) (by exact rfl) (by exact rfl) (by exact rfl) (by exact rfl) (by exact rfl) (by exact rfl) RA hbg h138 hfd hus hms rfl hR hrv S3 fin
end
end

theorem primeHead : (fun (_ : OpenLaw) (_ : Params → Frag) => True) PySem.Challenge.rw_ft5005_01 hd.heap_39 := by k_fill; trivial
theorem chd87 (P : Params) : codeHdIn (hd.heap_39 P) 89 87 = true := by kernel_rfl
theorem chd138 (P : Params) : codeHdIn (hd.heap_39 P) 140 138 = true := by kernel_rfl
theorem noT (P : Params) : noTabs (hd.heap_39 P) = true := by kernel_rfl
theorem n_law (P : Params) : nsIn (hd.heap_39 P) mainGlobals (Str.ofString "law") = some (some (.ref 141)) := by k_is
theorem tabs_at {w : World} {h : Heap} (KX : (hd.heap_39 w.params).In h) (hT8 : ∀ P ∈ [87, 138], h.get? P = some (tabObj #[])) : TabsAt [(89, 87), (140, 138)] h := by
  intro q hq
  rcases List.mem_cons.mp hq with rfl | hq
  · exact ⟨codeHd_of_K KX (chd87 _), hT8 87 (.head _)⟩
  · rcases List.mem_singleton.mp hq with rfl
    exact ⟨codeHd_of_K KX (chd138 _), hT8 138 (.tail _ (.head _))⟩
def mkCx {w : World} {s₁ : Shared} {loose : List Str} {mean : ExcName → Option Value} {mg mb : Str → Option Value} (KX : (hd.heap_39 w.params).In s₁.heap) (hT : TabsAt [(89, 87), (140, 138)] s₁.heap) (T : Top hd.view_39 loose mean mg mb s₁.heap) : Cx where
  w := w
  hT := ghostOf s₁.heap [(89, 87), (140, 138)]
  os := s₁.os
  dr := s₁.drawn
  loose := loose
  mg := mg
  mb := mb
  inK := ghost_K hT KX (noT _)
  top := ⟨ghost_ns hT T.g, ghost_ns hT T.b, let ⟨mc, a, r⟩ := T.nolimit; ⟨mc, ghost_ns hT a, r⟩, T.builtins, T.free⟩
  bmain := let ⟨bm, ob, a1, a2, a3, a4, r⟩ := T.bmain; ⟨bm, ob, a1, a2, ghost_get hT a3 (fun q => by rw [q] at a4; cases a4), a4, r⟩
  c87 := (ghost_code hT).1
  c138 := (ghost_code hT).2.1
theorem mkSt {w : World} {s₁ : Shared} {loose : List Str} {mean : ExcName → Option Value} {mg mb : Str → Option Value} (KX : (hd.heap_39 w.params).In s₁.heap) (hT : TabsAt [(89, 87), (140, 138)] s₁.heap) (T : Top hd.view_39 loose mean mg mb s₁.heap) :
    St (mkCx KX hT T) s₁.gens s₁ [(87, Is (tabObj #[])), (138, Is (tabObj #[]))] := by
  have h87 := (hT (89, 87) (.head _)).2
  have h138 := (hT (140, 138) (.tail _ (.head _))).2
  refine ⟨fun b o e => of_hideAll _ e, fun p hp => ?_, fun p hp => ?_, by simp, rfl, rfl, rfl⟩
  · rcases List.mem_cons.mp hp with rfl | hp
    · exact ⟨_, h87, rfl⟩
    · rcases List.mem_singleton.mp hp with rfl
      exact ⟨_, h138, rfl⟩
  · rcases List.mem_cons.mp hp with rfl | hp
    · exact hideAll_none _ (.head _)
    · rcases List.mem_singleton.mp hp with rfl
      exact hideAll_none _ (.tail _ (.head _))
theorem mkOld {w : World} {s₁ s' : Shared} {loose : List Str} {mean : ExcName → Option Value} {mg mb : Str → Option Value} (KX : (hd.heap_39 w.params).In s₁.heap) (hT : TabsAt [(89, 87), (140, 138)] s₁.heap) (T : Top hd.view_39 loose mean mg mb s₁.heap)
    {g : Array GenState} {ps1 ps2 : Array Value} (S : St (mkCx KX hT T) g s' [(87, Is (tabObj ps1)), (138, Is (tabObj ps2))]) : OldK s₁.heap s'.heap := by
  have keep : ∀ b o, b ∉ [87, 138] → s₁.heap.get? b = some o → s'.heap.get? b = some o := fun b o hb e => S.keep b o (ghost_ne e hb)
  have grown : ∀ b o, b ∈ [87, 138] → s₁.heap.get? b = some o → isCodeTable s₁.heap b ∧ o = tabObj #[] ∧ ∃ ps, s'.heap.get? b = some (tabObj ps) := by
    intro b o hb e
    have key : ∀ q ∈ [((89 : Addr), (87 : Addr)), (140, 138)], q.2 = b → (∃ ps, s'.heap.get? b = some (tabObj ps)) → isCodeTable s₁.heap b ∧ o = tabObj #[] ∧ ∃ ps, s'.heap.get? b = some (tabObj ps) := by
      rintro q hq rfl hps
      have e2 := (hT q hq).2
      rw [e] at e2
      exact ⟨((hT q hq).1.tab (hT q hq).2).isCodeTable, Option.some.inj e2, hps⟩
    rcases List.mem_cons.mp hb with rfl | hb
    · obtain ⟨o', ho', e'⟩ := S.mem (.head _)
      cases e'
      exact key (89, 87) (.head _) rfl ⟨_, ho'⟩
    · rcases List.mem_singleton.mp hb with rfl
      obtain ⟨o', ho', e'⟩ := S.mem (.tail _ (.head _))
      cases e'
      exact key (140, 138) (.tail _ (.head _)) rfl ⟨_, ho'⟩
  refine ⟨fun b o e => ?_, fun b o e => ?_⟩
  · by_cases hb : b ∈ [87, 138]
    · obtain ⟨ht, rfl, ps, hP⟩ := grown b o hb e
      exact .inr (.inl ⟨ht, rfl, #[], ps, rfl, by rw [Array.empty_append]; exact hP⟩)
    · exact .inl (keep b o hb e)
  · by_cases hb : b ∈ [87, 138]
    · obtain ⟨_, _, ps, hP⟩ := grown b o hb e
      exact ⟨_, hP⟩
    · exact ⟨o, keep b o hb e⟩
theorem roomA : Rm callerA 101 := ⟨rfl, by decide, by decide⟩
end Mine
set_option maxHeartbeats 4000000 in
theorem PySem.Challenge.cw_ft5005_01_holds : PySem.Challenge.rw_ft5005_01.Holds :=
  hd (by
  k_fill
  intro w s₀ s₁ mg mb G Y fa o pm cd doc dV kV ho hd hcd hD hmg hg args vals as hpre hlay hrd hwl hlo
  have KX := km_in_of Y
  have hT8 := km_tabs_of Y
  refine Ground.open G ?_
  intro T B D TE TW
  try (refine guard_noD D (by decide +kernel) ?_; clear D)
  have hfa : fa = 141 := by
    have := mg_of KX T.g (Mine.n_law w.params)
    rw [hmg] at this
    injection this with this
    injection this
  subst hfa
  clear hd hcd hD ho hmg
  wrow_args hpre hlay hrd hwl hlo
  rename IntsAre _ _ => hI
  rename Heap.IsList _ _ _ => hL
  have hT9 := Mine.tabs_at KX hT8
  refine Mine.c_law (X := Mine.mkCx KX hT9 T) (Mine.mkSt KX hT9 T) Mine.roomA (AllBare.of_eq hg) (ghost_list hT9 hL) hI (by omega) ?_
  intro s' g' ps1 ps2 hb' S'
  refine ⟨.inl ⟨.bool true, ofPy (.bool true), [], rfl, fun _ => rfl, readsW_of_reads (Reads.bool true), ?_, fun _ => ⟨List.nodup_nil, fun _ h => nomatch h⟩⟩, Mine.mkOld KX hT9 T S', S'.os, S'.gens ▸ hb'⟩
  exact postW_of (by wrow_shape) (by wtm_val) (by w_fin))
