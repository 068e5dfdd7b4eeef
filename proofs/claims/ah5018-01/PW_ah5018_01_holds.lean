import PyProof.Rows.All
import Wide.All
import OpenK.AllK
import Wide.FinOn
import PySem.Challenge.RW_ah5018_01
set_option Elab.async false
set_option maxRecDepth 100000

namespace Mine
open PySem PySem.W PySem.Calls PyProof.Rows

abbrev Pr := Obj → Prop
abbrev Cell := Addr × Pr

/-- the ledger: what the call has made so far -/
structure St (σ : Shared) (G : Array GenState → Prop) (L : List Cell) (s : Shared) : Prop where
  gens : G s.gens
  drawn : s.drawn = σ.drawn
  os : s.os = σ.os ∧ ∃ o, σ.heap.get? mainGlobals = some o
  keep : ∀ b o, σ.heap.get? b = some o → s.heap.get? b = some o
  live : ∀ p ∈ L, ∃ o, s.heap.get? p.1 = some o ∧ p.2 o
  nd : (L.map Prod.fst).Nodup
  off : ∀ p ∈ L, σ.heap.get? p.1 = none ∧ p.1 ≠ sysModules

variable {σ : Shared} {G : Array GenState → Prop} {L : List Cell} {s : Shared} {a : Addr} {P P' : Pr}

theorem St.toks (h : St σ G L s) (t : Nat) : St σ G L { s with toks := t } := ⟨h.gens, h.drawn, h.os, h.keep, h.live, h.nd, h.off⟩

/-- the same heap, other counters -/
theorem St.heap_eq {s' : Shared} (h : St σ G L s) (h1 : s'.gens = s.gens := by rfl) (h2 : s'.drawn = s.drawn := by rfl) (h3 : s'.os = s.os := by rfl)
    (h4 : s'.heap = s.heap := by rfl) : St σ G L s' :=
  ⟨h1 ▸ h.gens, h2.trans h.drawn, ⟨h3.trans h.os.1, h.os.2⟩, by rw [h4]; exact h.keep, by rw [h4]; exact h.live, h.nd, h.off⟩

theorem St.lt (h : St σ G L s) {p : Cell} (hp : p ∈ L) : p.1 < s.heap.objs.size := by
  obtain ⟨o, ho, _⟩ := h.live p hp
  exact Heap.lt_size ho

theorem St.fresh (h : St σ G L s) {a : Addr} (ha : s.heap.objs.size ≤ a) : σ.heap.get? a = none ∧ a ≠ sysModules := by
  constructor
  · cases q : σ.heap.get? a with
    | none => rfl
    | some o => exact absurd (Heap.lt_size (h.keep _ _ q)) (Nat.not_lt.mpr ha)
  · obtain ⟨o, ho⟩ := h.os.2
    have := Heap.lt_size (h.keep _ _ ho)
    intro e
    subst e
    exact absurd (Nat.lt_of_lt_of_le this ha) (by decide)

/-- all that lives stays: a heap that only grew -/
theorem St.keeps (h : St σ G L s) {h' : Heap} {t : Nat} (hk : ∀ b o, s.heap.get? b = some o → h'.get? b = some o) :
    St σ G L { s with heap := h', toks := t } :=
  ⟨h.gens, h.drawn, h.os, fun b o e => hk b o (h.keep b o e), fun p hp => by
    obtain ⟨o, ho, hP⟩ := h.live p hp
    exact ⟨o, hk _ _ ho, hP⟩, h.nd, h.off⟩

theorem St.push (h : St σ G L s) {o : Obj} {t : Nat} (hf : o.isFreed = false) (hP : P o) :
    St σ G ((s.heap.objs.size, P) :: L) { s with heap := s.heap.push o, toks := t } := by
  refine ⟨h.gens, h.drawn, h.os, fun b o e => Heap.get?_push_of_some _ (h.keep b o e), ?_, ?_, ?_⟩
  · intro p hp
    rcases List.mem_cons.mp hp with rfl | hp
    · exact ⟨o, Heap.get?_push_size _ hf, hP⟩
    · obtain ⟨o', ho', hP'⟩ := h.live p hp
      exact ⟨o', Heap.get?_push_of_some _ ho', hP'⟩
  · rw [List.map_cons, List.nodup_cons]
    refine ⟨fun hm => ?_, h.nd⟩
    obtain ⟨p, hp, e⟩ := List.mem_map.mp hm
    have := h.lt hp
    rw [e] at this
    exact Nat.lt_irrefl _ this
  · intro p hp
    rcases List.mem_cons.mp hp with rfl | hp
    · exact h.fresh (Nat.le_refl _)
    · exact h.off p hp

/-- the head cell is changed -/
theorem St.same (h : St σ G ((a, P) :: L) s) {h' : Heap} {t : Nat} (hs : Heap.SameBut a s.heap h') (hP : ∃ o, h'.get? a = some o ∧ P' o) :
    St σ G ((a, P') :: L) { s with heap := h', toks := t } := by
  have ha := (h.off (a, P) (.head _)).1
  refine ⟨h.gens, h.drawn, h.os, fun b o e => ?_, ?_, h.nd, ?_⟩
  · have hb : b ≠ a := fun q => by rw [q, ha] at e; cases e
    exact (hs.2 b hb).trans (h.keep b o e)
  · intro p hp
    rcases List.mem_cons.mp hp with rfl | hp
    · exact hP
    · obtain ⟨o, ho, hQ⟩ := h.live p (.tail _ hp)
      have hb : p.1 ≠ a := fun q => by
        have := h.nd
        rw [List.map_cons, List.nodup_cons] at this
        exact this.1 (List.mem_map.mpr ⟨p, hp, q⟩)
      exact ⟨o, (hs.2 _ hb).trans ho, hQ⟩
  · intro p hp
    rcases List.mem_cons.mp hp with rfl | hp
    · exact h.off (a, P) (.head _)
    · exact h.off p (.tail _ hp)

/-- the cells at some addresses are given up: all other things stay -/
theorem St.lose {W : List Cell} (h : St σ G (W ++ L) s) {h' : Heap} {t : Nat} (hk : ∀ b o, b ∉ W.map Prod.fst → s.heap.get? b = some o → h'.get? b = some o) :
    St σ G L { s with heap := h', toks := t } := by
  refine ⟨h.gens, h.drawn, h.os, fun b o e => ?_, ?_, ?_, fun p hp => h.off p (List.mem_append_right _ hp)⟩
  · refine hk b o (fun hm => ?_) (h.keep b o e)
    obtain ⟨p, hp, q⟩ := List.mem_map.mp hm
    have := (h.off p (List.mem_append_left _ hp)).1
    rw [q, e] at this; cases this
  · intro p hp
    obtain ⟨o, ho, hQ⟩ := h.live p (List.mem_append_right _ hp)
    refine ⟨o, hk _ _ (fun hm => ?_) ho, hQ⟩
    have := h.nd
    rw [List.map_append, List.nodup_append] at this
    exact this.2.2 _ hm _ (List.mem_map.mpr ⟨p, hp, rfl⟩) rfl
  · have := h.nd
    rw [List.map_append, List.nodup_append] at this
    exact this.2.1

/-- several cells are turned at once -/
theorem St.turn {W W' : List Cell} (h : St σ G (W ++ L) s) {h' : Heap} {t : Nat} (hW : W'.map Prod.fst = W.map Prod.fst)
    (hk : ∀ b o, b ∉ W.map Prod.fst → s.heap.get? b = some o → h'.get? b = some o) (hP : ∀ p ∈ W', ∃ o, h'.get? p.1 = some o ∧ p.2 o) :
    St σ G (W' ++ L) { s with heap := h', toks := t } := by
  have h1 := h.lose (t := t) hk
  refine ⟨h1.gens, h1.drawn, h1.os, h1.keep, ?_, ?_, ?_⟩
  · intro p hp
    rcases List.mem_append.mp hp with hp | hp
    · exact hP p hp
    · exact h1.live p hp
  · have := h.nd
    rw [List.map_append] at this ⊢
    rw [hW]; exact this
  · intro p hp
    rcases List.mem_append.mp hp with hp | hp
    · have : p.1 ∈ W.map Prod.fst := hW ▸ List.mem_map.mpr ⟨p, hp, rfl⟩
      obtain ⟨q, hq, e⟩ := List.mem_map.mp this
      rw [← e]; exact h.off q (List.mem_append_left _ hq)
    · exact h1.off p hp

theorem St.perm {L' : List Cell} (h : St σ G L s) (hp : L.Perm L') : St σ G L' s :=
  ⟨h.gens, h.drawn, h.os, h.keep, fun p q => h.live p (hp.mem_iff.mpr q), (hp.map Prod.fst).nodup_iff.mp h.nd, fun p q => h.off p (hp.mem_iff.mpr q)⟩

theorem St.sub {L' : List Cell} (h : St σ G L s) (hp : L'.Sublist L) : St σ G L' s :=
  ⟨h.gens, h.drawn, h.os, h.keep, fun p q => h.live p (hp.subset q), (hp.map Prod.fst).nodup h.nd, fun p q => h.off p (hp.subset q)⟩

/-- what a cell says may be weakened -/
theorem St.weaken (h : St σ G ((a, P) :: L) s) (hi : ∀ o, P o → P' o) : St σ G ((a, P') :: L) s :=
  ⟨h.gens, h.drawn, h.os, h.keep, fun p hp => by
    rcases List.mem_cons.mp hp with rfl | hp
    · obtain ⟨o, ho, hP⟩ := h.live (a, P) (.head _)
      exact ⟨o, ho, hi o hP⟩
    · exact h.live p (.tail _ hp), h.nd, fun p hp => by
    rcases List.mem_cons.mp hp with rfl | hp
    · exact h.off (a, P) (.head _)
    · exact h.off p (.tail _ hp)⟩

/-- pick cells of the written front, in the order told; the rest R stays -/
theorem nodup_filterMap_get {α : Type} {l : List α} (hl : l.Nodup) : ∀ {is : List Nat}, is.Nodup → (is.filterMap (l[·]?)).Nodup
  | [], _ => List.nodup_nil
  | i :: is, hi => by
    rw [List.nodup_cons] at hi
    have ih := nodup_filterMap_get hl hi.2
    rw [List.filterMap_cons]
    cases q : l[i]? with
    | none => exact ih
    | some x =>
      refine List.nodup_cons.mpr ⟨fun hm => ?_, ih⟩
      obtain ⟨j, hj, e⟩ := List.mem_filterMap.mp hm
      obtain ⟨h1, q1⟩ := List.getElem?_eq_some_iff.mp q
      obtain ⟨h2, q2⟩ := List.getElem?_eq_some_iff.mp e
      have : i = j := (List.getElem_inj (h₀ := h1) (h₁ := h2) hl).mp (q1.trans q2.symm)
      exact hi.1 (this ▸ hj)

def pk (E R : List Cell) : List Nat → List Cell
  | [] => R
  | i :: is => match E[i]? with
    | some c => c :: pk E R is
    | none => pk E R is
theorem pk_eq (E R : List Cell) : ∀ is : List Nat, pk E R is = is.filterMap (E[·]?) ++ R
  | [] => rfl
  | i :: is => by
    unfold pk
    rw [List.filterMap_cons]
    cases E[i]? with
    | none => exact pk_eq E R is
    | some c => rw [pk_eq E R is]; rfl

def picked (E : List Cell) (is : List Nat) : List Cell := is.filterMap (E[·]?)

theorem St.pick {E R : List Cell} (is : List Nat) (h : St σ G (E ++ R) s) (hi : is.Nodup := by decide) : St σ G (pk E R is) s := by
  rw [pk_eq]
  show St σ G (picked E is ++ R) s
  have hsub : ∀ p ∈ picked E is ++ R, p ∈ E ++ R := by
    intro p hp
    rcases List.mem_append.mp hp with hp | hp
    · obtain ⟨i, _, e⟩ := List.mem_filterMap.mp hp
      exact List.mem_append_left _ (List.mem_of_getElem? e)
    · exact List.mem_append_right _ hp
  refine ⟨h.gens, h.drawn, h.os, h.keep, fun p q => h.live p (hsub p q), ?_, fun p q => h.off p (hsub p q)⟩
  have hn := h.nd
  rw [List.map_append, List.nodup_append] at hn ⊢
  refine ⟨?_, hn.2.1, ?_⟩
  · have : (picked E is).map Prod.fst = is.filterMap ((E.map Prod.fst)[·]?) := by
      unfold picked
      rw [List.map_filterMap]
      congr 1
      funext i
      simp
    rw [this]
    exact nodup_filterMap_get hn.1 hi
  · intro x hx y hy
    obtain ⟨p, hp, rfl⟩ := List.mem_map.mp hx
    obtain ⟨i, _, e⟩ := List.mem_filterMap.mp hp
    exact hn.2.2 _ (List.mem_map.mpr ⟨p, List.mem_of_getElem? e, rfl⟩) _ hy

/-- one cell, by its place: to the front -/
theorem St.front (i : Nat) (h : St σ G L s) {c : Cell} (hi : L[i]? = some c) : St σ G (c :: L.eraseIdx i) s := by
  refine h.perm ?_
  obtain ⟨hl, e⟩ := List.getElem?_eq_some_iff.mp hi
  rw [List.eraseIdx_eq_take_drop_succ, ← e]
  have := List.perm_middle (a := L[i]) (l₁ := L.take i) (l₂ := L.drop (i + 1))
  rwa [List.getElem_cons_drop, List.take_append_drop] at this

theorem St.get (h : St σ G L s) {a : Addr} {P : Pr} (hm : (a, P) ∈ L) : ∃ o, s.heap.get? a = some o ∧ P o := h.live _ hm

/-- a cell of the ledger is turned: where it stands, and what the ledger is then -/
inductive Put (a : Addr) (P P' : Pr) : List Cell → List Cell → Prop
  | here {L : List Cell} : Put a P P' ((a, P) :: L) ((a, P') :: L)
  | there {c : Cell} {L L' : List Cell} : Put a P P' L L' → Put a P P' (c :: L) (c :: L')

theorem Put.split {L L' : List Cell} (h : Put a P P' L L') : ∃ F R, L = F ++ (a, P) :: R ∧ L' = F ++ (a, P') :: R := by
  induction h with
  | here => exact ⟨[], _, rfl, rfl⟩
  | @there c L L' _ ih => obtain ⟨F, R, e, e'⟩ := ih; exact ⟨c :: F, R, by rw [e]; rfl, by rw [e']; rfl⟩

theorem Put.mem {L L' : List Cell} (h : Put a P P' L L') : (a, P) ∈ L := by
  obtain ⟨F, R, rfl, _⟩ := h.split
  exact List.mem_append_right _ (.head _)

theorem St.put {L L' : List Cell} (h : St σ G L s) (hp : Put a P P' L L') {h' : Heap} {t : Nat} (hs : Heap.SameBut a s.heap h') (hP : ∃ o, h'.get? a = some o ∧ P' o) :
    St σ G L' { s with heap := h', toks := t } := by
  obtain ⟨F, R, rfl, rfl⟩ := hp.split
  exact ((h.perm List.perm_middle).same hs hP).perm List.perm_middle.symm
end Mine

namespace Mine
open PySem PySem.W PySem.Calls PyProof.Rows

/-- nothing is raised -/
abbrev W {α : Type} (prog : Program) (w : World) (A : Around) (t : Sem α) (Q : α → Shared → Prop) (s : Shared) : Prop := wpAny (model prog w) A t Q (fun _ _ => False) s

def fr (l : List (Str × Value)) : Pr := fun o => ∃ es ep, o.data = .dict es ep ∧ StrKeys es ∧ ∀ p ∈ l, nsFind es p.1 = some p.2
def lst (vs : List Value) : Pr := fun o => ∃ n, o = { cls := .type "list", dict := none, data := .seq vs.toArray n, slots := #[] }
def tup (vs : List Value) : Pr := fun o => ∃ n, o = { cls := .type "tuple", dict := none, data := .seq vs.toArray n, slots := #[] }
def cel (v : Option Value) : Pr := fun o => o.data = .cell v
def lit (l : Addr) (i : Nat) : Pr := fun o => o.cls = .type "list_iterator" ∧ o.data = .fields #[.ref l, .int i 0]
def rit (x left step : Int) : Pr := fun o => o = { cls := .type "range_iterator", dict := none, data := .fields #[rawInt x, rawInt left, rawInt step], slots := #[] }

theorem fr_sub {l l' : List (Str × Value)} (h : ∀ p ∈ l', p ∈ l) {o : Obj} (x : fr l o) : fr l' o :=
  let ⟨es, ep, h1, h2, h3⟩ := x; ⟨es, ep, h1, h2, fun p hp => h3 p (h p hp)⟩

/-- a name's old bindings go -/
inductive Del (x : Str) : List (Str × Value) → List (Str × Value) → Prop
  | nil : Del x [] []
  | drop {u : Value} {r r' : List (Str × Value)} : Del x r r' → Del x ((x, u) :: r) r'
  | keep {y : Str} {u : Value} {r r' : List (Str × Value)} : (y == x) = false → Del x r r' → Del x ((y, u) :: r) ((y, u) :: r')
theorem Del.ok {x : Str} {l l' : List (Str × Value)} (h : Del x l l') : ∀ p ∈ l', p ∈ l ∧ p.1 ≠ x := by
  induction h with
  | nil => intro p hp; cases hp
  | drop _ ih => intro p hp; exact ⟨.tail _ (ih p hp).1, (ih p hp).2⟩
  | keep hn _ ih =>
    intro p hp
    rcases List.mem_cons.mp hp with rfl | hp
    · exact ⟨.head _, fun e => by simp only [beq_eq_false_iff_ne, ne_eq] at hn; exact hn e⟩
    · exact ⟨.tail _ (ih p hp).1, (ih p hp).2⟩

section
variable {prog : Program} {w : World} {A : Around} {σ s : Shared} {G : Array GenState → Prop} {L L' : List Cell} {env : Env}

theorem W.bind {α β : Type} {m : Sem α} {f : α → Sem β} {Q : β → Shared → Prop} (h : W prog w A m (fun a s' => W prog w A (f a) Q s') s) : W prog w A (m >>= f) Q s := wpAny_bind h
theorem W.pure {α : Type} {a : α} {Q : α → Shared → Prop} (h : Q a s) : W prog w A (pure a : Sem α) Q s := wpAny_pure h
theorem W.mono {α : Type} {t : Sem α} {Q Q' : α → Shared → Prop} (h : W prog w A t Q s) (k : ∀ a s, Q a s → Q' a s) : W prog w A t Q' s := wpAny_mono h k fun _ _ x => x
theorem W.any {α : Type} {t : Sem α} {Q : α → Shared → Prop} {E : Value → Shared → Prop} (h : W prog w A t Q s) : wpAny (model prog w) A t Q E s := wpAny_mono h (fun _ _ x => x) fun _ _ x => x.elim

theorem St.ns {l : List (Str × Value)} {a : Addr} (h : St σ G L s) (hf : (a, fr l) ∈ L) : ∃ m, s.heap.Ns a m ∧ ∀ p ∈ l, m p.1 = some p.2 := by
  obtain ⟨o, ho, es, ep, h1, h2, h3⟩ := h.get hf
  exact ⟨_, ⟨o, es, ep, ho, h1, h2, fun _ => rfl⟩, h3⟩
theorem St.isL {a : Addr} {vs : List Value} (h : St σ G L s) (hf : (a, lst vs) ∈ L) : ∃ n, IsL s.heap a vs.toArray n := by
  obtain ⟨o, ho, n, rfl⟩ := h.get hf
  exact ⟨n, ho⟩
theorem St.isList {a : Addr} {vs : List Value} (h : St σ G L s) (hf : (a, lst vs) ∈ L) : s.heap.IsList a vs.toArray := (h.isL hf).elim fun _ x => x.isList
theorem St.isTup {a : Addr} {vs : List Value} (h : St σ G L s) (hf : (a, tup vs) ∈ L) : s.heap.IsTuple a vs.toArray := by
  obtain ⟨o, ho, n, rfl⟩ := h.get hf
  exact ⟨_, ho, rfl, n, rfl⟩
theorem St.isCell {a : Addr} {v : Option Value} (h : St σ G L s) (hf : (a, cel v) ∈ L) : s.heap.IsCell a v := by
  obtain ⟨o, ho, e⟩ := h.get hf
  exact ⟨o, ho, e⟩
theorem St.isLit {a l : Addr} {i : Nat} (h : St σ G L s) (hf : (a, lit l i) ∈ L) : s.heap.IsListIter a l i := by
  obtain ⟨o, ho, e⟩ := h.get hf
  exact ⟨o, ho, e⟩

-- NAMES
theorem T_name {x : Str} {pos : Pos} {l : List (Str × Value)} {v : Value} {Q : Value → Shared → Prop} (h : St σ G L s) (hf : (env.locals, fr l) ∈ L) (hv : (x, v) ∈ l) (k : Q v s)
    (hk : env.scope.kind = .function := by rfl) (hl : env.kindOf x = some .local := by rfl) (hd : (x == ("__debug__" : Str)) = false := by decide) :
    W prog w A (eval (.Name x pos) env) Q s := by
  obtain ⟨m, hn, hm⟩ := h.ns hf
  exact wpAny_Name (wpAny_loadName_local hk hl hn (hm _ hv) k) hd
theorem T_loadName {x : Str} {l : List (Str × Value)} {v : Value} {Q : Value → Shared → Prop} (h : St σ G L s) (hf : (env.locals, fr l) ∈ L) (hv : (x, v) ∈ l) (k : Q v s)
    (hk : env.scope.kind = .function := by rfl) (hl : env.kindOf x = some .local := by rfl) : W prog w A (loadName env x) Q s := by
  obtain ⟨m, hn, hm⟩ := h.ns hf
  exact wpAny_loadName_local hk hl hn (hm _ hv) k
theorem T_nameCell {x : Str} {pos : Pos} {c : Addr} {v : Value} {Q : Value → Shared → Prop} (h : St σ G L s) (hc : env.cells.lookup x = some c) (hf : (c, cel (some v)) ∈ L) (k : Q v s)
    (hk : env.scope.kind = .function := by rfl) (hl : env.kindOf x = some .cell := by rfl) (hd : (x == ("__debug__" : Str)) = false := by decide) :
    W prog w A (eval (.Name x pos) env) Q s := wpAny_Name (wpAny_loadName_cell hk hl hc (h.isCell hf) k) hd
theorem T_nameFree {x : Str} {pos : Pos} {c : Addr} {v : Value} {Q : Value → Shared → Prop} (h : St σ G L s) (hc : env.cells.lookup x = some c) (hf : (c, cel (some v)) ∈ L) (k : Q v s)
    (hk : env.scope.kind = .function := by rfl) (hl : env.kindOf x = some .free := by rfl) (hd : (x == ("__debug__" : Str)) = false := by decide) (hn : (x == ("__classdict__" : Str)) = false := by decide) :
    W prog w A (eval (.Name x pos) env) Q s := wpAny_Name (wpAny_loadName_free hk hl hc (h.isCell hf) k hn) hd

theorem T_storeName {x : Str} {l l' : List (Str × Value)} {v : Value} {Q : Unit → Shared → Prop} (h : St σ G L s) (hd : Del x l l') (hp : Put env.locals (fr l) (fr ((x, v) :: l')) L L')
    (k : ∀ s', St σ G L' s' → Q () s')
    (hl : env.kindOf x = some .local := by rfl) (hc : (env.scope.kind == .class || (env.scope.kind == .module && env.locals != env.globals)) = false := by rfl) :
    W prog w A (storeName env x v) Q s := by
  obtain ⟨m, hn, hm⟩ := h.ns hp.mem
  refine wpAny_storeName_local hl hn (fun h' hn' hs => k _ (h.put hp hs ?_)) hc
  obtain ⟨o, es, ep, ho, hd', hk', hf⟩ := hn'
  refine ⟨o, ho, es, ep, hd', hk', fun p hp => ?_⟩
  rw [hf]
  rcases List.mem_cons.mp hp with rfl | hp
  · exact if_pos rfl
  · have := hd.ok p hp
    exact (if_neg this.2).trans (hm p this.1)
theorem T_storeCell {x : Str} {c : Addr} {v₀ : Option Value} {v : Value} {Q : Unit → Shared → Prop} (h : St σ G L s) (hc : env.cells.lookup x = some c) (hp : Put c (cel v₀) (cel (some v)) L L')
    (k : ∀ s', St σ G L' s' → Q () s') (hk : env.scope.kind = .function := by rfl) (hl : env.kindOf x = some .cell := by rfl) : W prog w A (storeName env x v) Q s := by
  refine wpAny_storeName_cell hk hl hc (h.isCell hp.mem) (fun h' hx hs => k _ (h.put (t := s.toks) hp hs ?_))
  obtain ⟨o, ho, e⟩ := hx
  exact ⟨o, ho, e⟩

-- GLOBALS AND BUILT-INS
structure Base (σ : Shared) (mg : Str → Option Value) : Prop where
  g : σ.heap.Ns mainGlobals mg
  b : ∃ mb, σ.heap.Ns builtinsNs mb ∧ ∀ x : Str, x ≠ "__name__" → mb x = bootBuiltins x
  lim : σ.heap.NoLimit
theorem T_global {mg : Str → Option Value} {x : Str} {pos : Pos} {v : Value} {Q : Value → Shared → Prop} (B : Base σ mg) (h : St σ G L s) (hv : mg x = some v) (k : Q v s)
    (hg : env.globals = mainGlobals := by rfl)
    (hk : env.scope.kind = .function := by rfl) (hx : env.kindOf x = some .globalImplicit := by rfl) (hd : (x == ("__debug__" : Str)) = false := by decide) : W prog w A (eval (.Name x pos) env) Q s :=
  Name_function_global hk hx (loadGlobal_global (hg ▸ B.g.keeps h.keep) hv k) hd
theorem T_builtin {mg : Str → Option Value} {x : Str} {pos : Pos} {v : Value} {Q : Value → Shared → Prop} (B : Base σ mg) (h : St σ G L s) (hm : mg x = none) (hv : bootBuiltins x = some v) (k : Q v s)
    (hg : env.globals = mainGlobals := by rfl) (hb : env.builtins = builtinsNs := by rfl)
    (hk : env.scope.kind = .function := by rfl) (hx : env.kindOf x = some .globalImplicit := by rfl) (hn : x ≠ "__name__" := by decide) (hd : (x == ("__debug__" : Str)) = false := by decide) : W prog w A (eval (.Name x pos) env) Q s := by
  obtain ⟨mb, hB, e⟩ := B.b
  exact Name_function_global hk hx (loadGlobal_builtin (hg ▸ B.g.keeps h.keep) hm (hb ▸ hB.keeps h.keep) ((e x hn).trans hv) k) hd

-- CONSTANTS
theorem T_int {i : Int} {kd : Nat} {pos : Pos} {Q : Value → Shared → Prop} (h : St σ G L s) (k : ∀ t s', St σ G L s' → Q (.int i t) s') : W prog w A (eval (.Constant (.int i) kd pos) env) Q s :=
  wpAny_Constant_int (k _ _ (h.toks _))
theorem T_none {kd : Nat} {pos : Pos} {Q : Value → Shared → Prop} (k : Q .none s) : W prog w A (eval (.Constant .none kd pos) env) Q s := wpAny_Constant_none k
theorem T_bool {b : Bool} {kd : Nat} {pos : Pos} {Q : Value → Shared → Prop} (k : Q (.bool b) s) : W prog w A (eval (.Constant (.bool b) kd pos) env) Q s := wpAny_Constant_bool k

-- STATEMENTS
theorem T_nil {Q : Flow → Shared → Prop} (k : Q .next s) : W prog w A (execs [] env) Q s := wpAny_execs_nil k
theorem T_cons {st : Stmt} {rest : List Stmt} {Q : Flow → Shared → Prop}
    (k : W prog w A (exec st env) (fun f s' => match f with | .next => W prog w A (execs rest env) Q s' | f => Q f s') s) : W prog w A (execs (st :: rest) env) Q s := wpAny_execs_cons k
theorem T_assignName {x : Str} {pos' : Pos} {value : Expr} {pos : Pos} {Q : Flow → Shared → Prop}
    (k : W prog w A (eval value env) (fun v s₁ => W prog w A (storeName env x v) (fun _ => Q .next) s₁) s)
    (hs : swapsWith value (some (.Name x pos')) pos.line env = pure false := by rfl) : W prog w A (exec (.Assign [.Name x pos'] value pos) env) Q s := wpAny_Assign_Name k hs
theorem T_assign {targets : List Expr} {value : Expr} {pos : Pos} {Q : Flow → Shared → Prop}
    (k : W prog w A (eval value env) (fun v s₁ => W prog w A (assignAll v ((assignEach targets env).map (·.2))) (fun _ => Q .next) s₁) s)
    (hs : swapsWithSole targets value pos.line env = pure false := by rfl) (hw : swappedStores targets value env = pure none := by rfl) :
    W prog w A (exec (.Assign targets value pos) env) Q s := wpAny_Assign_stores k hs hw
theorem T_if {test : Expr} {body orelse : List Stmt} {pos : Pos} {Q : Flow → Shared → Prop}
    (k : W prog w A (isTrue test env (eval test env)) (fun b s₂ => if b then W prog w A (execs body env) Q s₂ else W prog w A (execs orelse env) Q s₂) s) :
    W prog w A (exec (.If test body orelse pos) env) Q s := wpAny_If k
theorem T_ret {e : Expr} {pos : Pos} {Q : Flow → Shared → Prop} (k : W prog w A (eval e env) (fun v => Q (.ret v)) s) : W prog w A (exec (.Return (some e) pos) env) Q s := wpAny_Return_some k
theorem T_break {pos : Pos} {Q : Flow → Shared → Prop} (k : Q .brk s) : W prog w A (exec (.Break pos) env) Q s := wpAny_Break k
theorem T_expr {e : Expr} {pos : Pos} {Q : Flow → Shared → Prop} (k : W prog w A (eval e env) (fun v s' => match v with | .ref _ => False | _ => Q .next s') s)
    (hi : interactive env = false := by rfl) (hs : swapsWith e none pos.line env = pure false := by rfl) : W prog w A (exec (.Expr e pos) env) Q s := wpAny_Expr k hi hs

-- TESTS
theorem T_compare {l r : Expr} {op : CmpOp} {pos : Pos} {Q : Value → Shared → Prop}
    (k : W prog w A (eval l env) (fun a s₁ => W prog w A (eval r env) (fun b s₂ => W prog w A (compareOp op a b) Q s₂) s₁) s) (hm : behindInMarks op r = false := by with_unfolding_all rfl) :
    W prog w A (eval (.Compare l [op] [r] pos) env) Q s := wpAny_Compare1 k hm
theorem T_isCompare {l r : Expr} {op : CmpOp} {pos : Pos} {whole : Sem Value} {Q : Bool → Shared → Prop}
    (k : W prog w A (eval l env) (fun a s₁ => W prog w A (eval r env) (fun b s₂ => W prog w A (compareOp op a b) (fun c s₃ => W prog w A (truthy c) Q s₃) s₂) s₁) s) (hm : behindInMarks op r = false := by with_unfolding_all rfl) :
    W prog w A (isTrue (.Compare l [op] [r] pos) env whole) Q s := wpAny_isTrue_Compare1 k hm
theorem T_isNot {x : Expr} {pos : Pos} {whole : Sem Value} {Q : Bool → Shared → Prop} (k : W prog w A (isTrue x env (eval x env)) (fun b s₁ => Q (!b) s₁) s) :
    W prog w A (isTrue (.UnaryOp .Not x pos) env whole) Q s := wpAny_isTrue_Not k
theorem T_isName {x : Str} {p : Pos} {whole : Sem Value} {Q : Bool → Shared → Prop} (k : W prog w A whole (fun v s₁ => W prog w A (truthy v) Q s₁) s) :
    W prog w A (isTrue (.Name x p) env whole) Q s := wpAny_isTrue_value k
theorem T_truthyBool {b : Bool} {Q : Bool → Shared → Prop} (k : Q b s) : W prog w A (truthy (.bool b)) Q s := wpAny_truthy_bool k
theorem T_truthyList {a : Addr} {vs : List Value} {Q : Bool → Shared → Prop} (h : St σ G L s) (hl : (a, lst vs) ∈ L) (hfit : vs.length ≤ 1000) (k : ∀ s', St σ G L s' → Q (!vs.isEmpty) s') :
    W prog w A (truthy (.ref a)) Q s := by
  refine wpAny_truthy_list (h.isList hl) (by simp only [List.size_toArray]; omega) ?_
  cases vs with
  | nil => exact k _ (h.toks _)
  | cons v r => exact k _ (h.toks _)
theorem T_eqInt {a b : Int} {t u : Tok} {Q : Value → Shared → Prop} (k : Q (.bool (a == b)) s) : W prog w A (compareOp .Eq (.int a t) (.int b u)) Q s := PySem.wpAny_eq_int k
theorem T_ltInt {a b : Int} {t u : Tok} {Q : Value → Shared → Prop} (k : Q (.bool (decide (a < b))) s) : W prog w A (compareOp .Lt (.int a t) (.int b u)) Q s := PySem.wpAny_lt_int k
theorem T_gtInt {a b : Int} {t u : Tok} {Q : Value → Shared → Prop} (k : Q (.bool (decide (b < a))) s) : W prog w A (compareOp .Gt (.int a t) (.int b u)) Q s := PyProof.Rows.gt_int k
end
end Mine

namespace Mine
open PySem PySem.W PySem.Calls PyProof.Rows

theorem sz {n : Nat} (h : n ≤ 1000) : n ≤ sizeLine := by rw [sizeLine_eq]; omega

theorem list_set_meets (l : Addr) (items : Array Value) (n : Nat) (k : Int) (u : Tok) (v : Value) (h0 : 0 ≤ k) (hk : k < items.size) (hz : Builtin.List.listFitsIndex k = true) :
    Meets (Builtin.«list.__setitem__» ⟨[.ref l, .int k u, v], []⟩) (fun _ R s => s.heap.get? l = some { cls := .type "list", dict := none, data := .seq items n, slots := #[] } ∧
      R (.ok (.ret .none)) { s with heap := s.heap.update l (Obj.mapSeq (·.setIfInBounds k.toNat v)) }) := by
  intro prog w A R s h
  obtain ⟨hl, h⟩ := h
  show wpAny _ _ (Builtin.List.listSubscript? (.int k u) >>= _) _ _ s
  refine wpAny_bind (wpAny_listSubscript_int hz ?_)
  clear hz
  obtain ⟨j, rfl⟩ := Int.eq_ofNat_of_zero_le h0
  have hj : j < items.size := by omega
  have hx' : items[j]? = some items[j] := Array.getElem?_eq_getElem hj
  show wpAny _ _ ((seqItemAt l j >>= fun r => pure (r.map (j, ·))) >>= _) _ _ s
  refine wpAny_bind (wpAny_bind (wpAny_seqItemAt hl rfl (wpAny_pure ?_)))
  rw [hx']
  show wpAny _ _ (setSeqItemAt l j v >>= _) _ _ s
  refine wpAny_bind (wpAny_setSeqItemAt hl rfl ?_)
  first
    | exact wpAny_pure h
    | exact wpAny_bind (wpAny_pure (wpAny_pure h))

theorem mapSeq_list (f : Array Value → Array Value) (items : Array Value) (n : Nat) : ∃ n', Obj.mapSeq f { cls := .type "list", dict := none, data := .seq items n, slots := #[] } = { cls := .type "list", dict := none, data := .seq (f items) n', slots := #[] } := ⟨_, rfl⟩

section
variable {prog : Program} {w : World} {A : Around} {σ s : Shared} {G : Array GenState → Prop} {L L' : List Cell} {env : Env}

/-- a list of the ledger is turned by f -/
theorem St.updL {l : Addr} {vs ws : List Value} {f : Array Value → Array Value} (h : St σ G L s) (hp : Put l (lst vs) (lst ws) L L') (e : (f vs.toArray).toList = ws) :
    St σ G L' { s with heap := s.heap.update l (Obj.mapSeq f) } := by
  obtain ⟨n, hl⟩ := h.isL hp.mem
  obtain ⟨n', e'⟩ := mapSeq_list f vs.toArray n
  refine h.put (t := s.toks) hp (Heap.SameBut.update ..) ⟨_, Heap.get?_update_self _ hl (by rw [e']; rfl), n', ?_⟩
  rw [e', ← e]

-- NEW OBJECTS
theorem T_newList {vs : List Value} {Q : Value → Shared → Prop} (h : St σ G L s) (k : ∀ a s', St σ G ((a, lst vs) :: L) s' → Q (.ref a) s') (hz : vs.length ≤ 1000 := by simp) : W prog w A (newList vs) Q s :=
  wpAny_newList (k _ _ (h.push (t := s.toks) rfl ⟨0, rfl⟩)) (by simpa using sz hz)
theorem T_newTuple {vs : List Value} {Q : Value → Shared → Prop} (h : St σ G L s) (k : ∀ a s', St σ G ((a, tup vs) :: L) s' → Q (.ref a) s') (hz : vs.length ≤ 1000 := by simp) : W prog w A (newTuple vs) Q s :=
  wpAny_newObj_type (k _ _ (h.push (t := s.toks) rfl ⟨0, rfl⟩)) (by show vs.toArray.size ≤ sizeLine; simpa using sz hz)
theorem T_tuple {elts : List Expr} {kd : Nat} {pos : Pos} {Q : Value → Shared → Prop} (k : W prog w A (spliced (backTo pos (starEach elts env))) (fun vs s₁ => W prog w A (newTuple vs) Q s₁) s) :
    W prog w A (eval (.Tuple elts kd pos) env) Q s := Tuple_ k
theorem T_list {elts : List Expr} {pos : Pos} {Q : Value → Shared → Prop} (k : W prog w A (spliced (backTo pos (starEach elts env))) (fun vs s₁ => W prog w A (newList vs) Q s₁) s) :
    W prog w A (eval (.List elts pos) env) Q s := List_ k
theorem T_args0 {pos : Pos} {Q : List Value → Shared → Prop} (k : Q [] s) : W prog w A (spliced (backTo pos (starEach [] env))) Q s := args_nil k
theorem T_args {e : Expr} {rest : List Expr} {pos : Pos} {Q : List Value → Shared → Prop}
    (k : W prog w A (eval e env) (fun v s₁ => W prog w A (spliced (backTo pos (starEach rest env))) (fun vs s₂ => Q (v :: vs) s₂) s₁) s)
    (he : starEach (e :: rest) env = (false, eval e env) :: starEach rest env := by rfl) : W prog w A (spliced (backTo pos (starEach (e :: rest) env))) Q s := args_cons k he

-- SUBSCRIPTS
theorem T_sub {value slice : Expr} {pos : Pos} {Q : Value → Shared → Prop} (k : W prog w A (eval value env) (fun o s₁ => W prog w A (eval slice env) (fun i s₂ => W prog w A (subscriptTail value slice o i) Q s₂) s₁) s) :
    W prog w A (eval (.Subscript value slice pos) env) Q s := Subscript_ k
theorem T_item {value slice : Expr} {l : Addr} {vs : List Value} {i : Int} {t : Tok} {x : Value} {Q : Value → Shared → Prop} (h : St σ G L s) (hl : (l, lst vs) ∈ L) (h0 : 0 ≤ i) (hx : vs[i.toNat]? = some x) (hz : vs.length ≤ 1000) (k : Q x s)
    (hs : subscripted slice false (.ref l) (.int i t) = operate [.ref l, .int i t] (getItem (.ref l) (.int i t)) := by with_unfolding_all rfl) :
    W prog w A (subscriptTail value slice (.ref l) (.int i t)) Q s := by
  have hi : i.toNat < vs.length := (List.getElem?_eq_some_iff.mp hx).1
  have hb : i < 2 ^ 63 := by omega
  exact tail_any (h.isList hl).typeIs slot_list_getitem.lookup (wpAny_getItem_list (h.isList hl) h0 hb (by simpa using hx) k) hs
theorem T_setItem {l : Addr} {vs ws : List Value} {i : Int} {t : Tok} {v : Value} {Q : Unit → Shared → Prop} (h : St σ G L s) (hp : Put l (lst vs) (lst ws) L L') (e : ws = vs.set i.toNat v) (h0 : 0 ≤ i) (hi : i < vs.length) (hz : vs.length ≤ 1000)
    (k : ∀ s', St σ G L' s' → Q () s') : W prog w A (setItem (.ref l) (.int i t) v) Q s := by
  have hk := k _ (h.updL (f := (·.setIfInBounds i.toNat v)) hp (by rw [e]; simp))
  obtain ⟨n, hl⟩ := h.isL hp.mem
  have hf : Builtin.List.listFitsIndex i = true := fitsIndex_of h0 (by omega)
  have T : s.TypeIs (.ref l) "list" := ⟨_, hl, rfl⟩
  clear hz
  unfold setItem
  try with_reducible refine wpAny_holding ?_
  first | refine wpAny_bind (wpAny_pure ?_) | skip
  refine wpAny_bind (wpAny_sequenceKey T (by decide) ?_)
  refine wpAny_bind (wpAny_callSpecial?_slot (name := Str.ofString "__setitem__") T slot_list_setitem
    (call_meets slot_list_setitem T entry_list_setitem (args_list_setitem _ _ _) (list_set_meets l vs.toArray n i t v h0 (by simpa using hi) hf) ⟨hl, wpAny_pure hk⟩))

-- CALLS
theorem T_method {o : Expr} {name : Str} {apos pos : Pos} {args : List Expr} {pl : Sem Bool} {Q : Value → Shared → Prop}
    (k : W prog w A (eval o env) (fun ov s₁ => W prog w A (getMethod ov name pl) (fun fx s₂ => W prog w A (callWith pos fx.1 fx.2 (backTo pos (starEach args env)) []) Q s₂) s₁) s)
    (he : eval (.Call (.Attribute o name apos) args [] pos) env = (do
      let ov ← eval o env
      standAt apos.atName
      let (f, first) ← holding [ov] (getMethod ov name pl)
      callWith pos f first (backTo pos (starEach args env)) []) := by rfl) :
    W prog w A (eval (.Call (.Attribute o name apos) args [] pos) env) Q s := MethodCall_ k he
theorem T_call {func : Expr} {args : List Expr} {pos : Pos} {Q : Value → Shared → Prop}
    (k : W prog w A (eval func env) (fun f s₁ => W prog w A (callWith pos f [] (backTo pos (starEach args env)) []) Q s₁) s)
    (he : eval (.Call func args [] pos) env = (do callWith pos (← eval func env) [] (backTo pos (starEach args env)) (backToKw pos (keywordEach [] env))) := by rfl) :
    W prog w A (eval (.Call func args [] pos) env) Q s := Call_ k he
theorem T_with1 {pos : Pos} {id : String} {first : List Value} {e : Expr} {rest : List Expr} {Q : Value → Shared → Prop}
    (k : W prog w A (spliced (backTo pos (starEach (e :: rest) env))) (fun vs s₁ => W prog w A (call (.builtin id) (first ++ vs)) Q s₁) s)
    (he : starEach (e :: rest) env = (false, eval e env) :: starEach rest env := by rfl) (hplain : (backTo pos (starEach rest env)).any (·.1) = false := by rfl) :
    W prog w A (callWith pos (.builtin id) first (backTo pos (starEach (e :: rest) env)) []) Q s := callWith_method1 k he hplain
theorem T_with0 {pos : Pos} {id : String} {first : List Value} {Q : Value → Shared → Prop} (k : W prog w A (call (.builtin id) first) Q s) :
    W prog w A (callWith pos (.builtin id) first (backTo pos (starEach [] env)) []) Q s := callWith_method0 k
theorem T_withT {pos : Pos} {T : String} {e : Expr} {rest : List Expr} {Q : Value → Shared → Prop}
    (k : W prog w A (spliced (backTo pos (starEach (e :: rest) env))) (fun vs s₁ => W prog w A (call (.type T) vs) Q s₁) s)
    (he : starEach (e :: rest) env = (false, eval e env) :: starEach rest env := by rfl) (hplain : (backTo pos (starEach rest env)).any (·.1) = false := by rfl) :
    W prog w A (callWith pos (.type T) [] (backTo pos (starEach (e :: rest) env)) []) Q s := PyProof.Rows.callWith_type1 k he hplain

theorem T_len {l : Addr} {vs : List Value} {Q : Value → Shared → Prop} (h : St σ G L s) (hl : (l, lst vs) ∈ L) (hz : vs.length ≤ 1000) (k : ∀ t s', St σ G L s' → Q (.int vs.length t) s') :
    W prog w A (call (.builtin "len") [.ref l]) Q s := by
  refine call_len_list (h.isList hl) (by simp only [List.size_toArray]; omega) ?_
  have := k (s.toks + 1) { s with toks := s.toks + 1 + 1 } (h.toks _)
  simpa using this
theorem T_getAppend {l : Addr} {vs : List Value} {pl : Sem Bool} {Q : Value × List Value → Shared → Prop} (h : St σ G L s) (hl : (l, lst vs) ∈ L) (k : Q (.builtin "list.append", [.ref l]) s) :
    W prog w A (getMethod (.ref l) "append" pl) Q s := by
  obtain ⟨n, hl⟩ := h.isL hl
  exact getMethod_list_append hl rfl rfl k
theorem T_getIndex {l : Addr} {vs : List Value} {pl : Sem Bool} {Q : Value × List Value → Shared → Prop} (h : St σ G L s) (hl : (l, lst vs) ∈ L) (k : Q (.builtin "list.index", [.ref l]) s) :
    W prog w A (getMethod (.ref l) "index" pl) Q s := by
  obtain ⟨n, hl⟩ := h.isL hl
  exact getMethod_builtin ⟨_, hl, rfl⟩ PySem.F.plainAttrs_list PySem.F.slot_list_index PySem.F.type_list_index (fun a e => by cases e; exact ⟨_, hl, rfl⟩) k
theorem T_getPop {l : Addr} {vs : List Value} {pl : Sem Bool} {Q : Value × List Value → Shared → Prop} (h : St σ G L s) (hl : (l, lst vs) ∈ L) (k : Q (.builtin "list.pop", [.ref l]) s) :
    W prog w A (getMethod (.ref l) "pop" pl) Q s := by
  obtain ⟨n, hl⟩ := h.isL hl
  exact getMethod_builtin ⟨_, hl, rfl⟩ PySem.F.plainAttrs_list PySem.F.slot_list_pop PySem.F.type_list_pop (fun a e => by cases e; exact ⟨_, hl, rfl⟩) k
theorem T_append {l : Addr} {vs : List Value} {v : Value} {Q : Value → Shared → Prop} (h : St σ G L s) (hp : Put l (lst vs) (lst (vs ++ [v])) L L') (hz : vs.length ≤ 1000) (k : ∀ s', St σ G L' s' → Q .none s') :
    W prog w A (call (.builtin "list.append") [.ref l, v]) Q s := by
  obtain ⟨n, hl⟩ := h.isL hp.mem
  refine wpAny_list_append_plain ⟨n, hl⟩ (fun h' hx hs => k _ (h.put (t := s.toks) hp hs ?_)) (by simpa using sz hz)
  obtain ⟨n', e⟩ := hx
  exact ⟨_, e, n', by simp⟩
theorem T_index {l : Addr} {vs : List Value} {v : Value} {j : Nat} {e : Value → Bool} {Q : Value → Shared → Prop} (h : St σ G L s) (hl : (l, lst vs) ∈ L) (hz : vs.length ≤ 1000) (he : ∀ y ∈ vs, PySem.MeetsSeq.EqGives y v (e y))
    {x : Value} (hj : vs[j]? = some x) (hx : e x = true) (hno : ∀ m y, m < j → vs[m]? = some y → e y = false) (k : ∀ t s', St σ G L s' → Q (.int j t) s') :
    W prog w A (call (.builtin "list.index") [.ref l, v]) Q s := by
  obtain ⟨n, hl⟩ := h.isL hl
  obtain ⟨hj1, hj2⟩ := List.getElem?_eq_some_iff.mp hj
  refine call_meets PySem.F.slot_list_index ⟨_, hl, rfl⟩ PySem.F.entry_list_index (PySem.F.args_list_index_2 _ _)
    (PySem.MeetsSeq.list_index l vs.toArray n v e (fun y hy => he y (by simpa using hy)) j (by simpa using hj1) (by omega) (by simpa [hj2] using hx)
      (fun m hm hmj => hno m _ hmj (by simpa using List.getElem?_eq_getElem (by simpa using hm)))) ⟨hl, ?_⟩
  exact k _ _ (h.toks _)
theorem T_popAt {l : Addr} {vs : List Value} {i : Int} {t : Tok} {x : Value} {Q : Value → Shared → Prop} (h : St σ G L s) (hp : Put l (lst vs) (lst (vs.eraseIdx i.toNat)) L L') (hz : vs.length ≤ 1000) (h0 : 0 ≤ i) (hx : vs[i.toNat]? = some x)
    (k : ∀ s', St σ G L' s' → Q x s') : W prog w A (call (.builtin "list.pop") [.ref l, .int i t]) Q s := by
  obtain ⟨n, hl⟩ := h.isL hp.mem
  have hi : i.toNat < vs.length := (List.getElem?_eq_some_iff.mp hx).1
  refine call_meets PySem.F.slot_list_pop ⟨_, hl, rfl⟩ PySem.F.entry_list_pop (PySem.F.args_list_pop_2 _ _)
    (PySem.MeetsSeq.list_pop_at l vs.toArray n i t i.toNat x (fitsIndex_of h0 (by omega)) (seqIndex_of h0 (by simp only [List.size_toArray]; omega)) (by simpa using hx) (by simpa using sz hz)) ⟨hl, ?_⟩
  exact k _ (h.updL (f := fun xs => xs.eraseIdxIfInBounds i.toNat) hp (by simp))
end
end Mine

namespace Mine
open PySem PySem.W PySem.Calls PyProof.Rows

/-- code that raises nothing -/
abbrev C (prog : Program) (w : World) (A : Around) (c : Code) (Q : Flow → Shared → Prop) (s : Shared) : Prop :=
  codeAny (model prog w) A c (fun r s' => match r with | .ok f => Q f s' | .error _ => False) s

/-- what an iterator hands out; the cells that it lives on -/
structure Src (prog : Program) (w : World) (A : Around) (σ : Shared) (G : Nat → Array GenState → Prop) (it : Value) (tg : Expr) (n : Nat) (D : List Cell) (I : Nat → List Cell) (V : Nat → Value → List Cell → Prop) : Prop where
  next : ∀ {i : Nat} {L : List Cell} {s : Shared} {K : Value → Shared → Prop}, i < n → St σ (G i) (I i ++ L) s → (∀ v W s', V i v W → St σ (G (i + 1)) (I (i + 1) ++ (W ++ L)) s' → K v s') →
    W prog w A (pyNext it) (fun r s₁ => match r with | none => False | some v => W prog w A (letOwnedTupleGo tg it v) (fun _ s₂ => K v s₂) s₁) s
  stop : ∀ {L : List Cell} {s : Shared} {K : Shared → Prop}, St σ (G n) (I n ++ L) s → (∀ s', St σ (G (n + 1)) (D ++ L) s' → K s') → W prog w A (pyNext it) (fun r s₁ => match r with | none => K s₁ | some _ => False) s

section
variable {prog : Program} {w : World} {A : Around} {σ s : Shared} {G : Array GenState → Prop} {L L' : List Cell} {env : Env}

-- THE SOURCES
theorem T_iterList {l : Addr} {vs : List Value} {Q : Value → Shared → Prop} (h : St σ G L s) (hl : (l, lst vs) ∈ L) (k : ∀ it s', St σ G ((it, lit l 0) :: L) s' → Q (.ref it) s') : W prog w A (pyIter (.ref l)) Q s :=
  wpAny_pyIter_list (h.isList hl) (k _ _ (h.push (t := s.toks) rfl ⟨rfl, rfl⟩))
theorem T_iterLit {it l : Addr} {i : Nat} {Q : Value → Shared → Prop} (h : St σ G L s) (hl : (it, lit l i) ∈ L) (k : Q (.ref it) s) : W prog w A (pyIter (.ref it)) Q s :=
  wpAny_pyIter_listiter (h.isLit hl) k

theorem Src.list (hA : A.handled = none) (it l : Addr) (vs : List Value) (x : Str) (p : Pos) :
    Src prog w A σ (fun _ => G) (.ref it) (.Name x p) vs.length [(l, lst vs)] (fun i => [(it, lit l i), (l, lst vs)]) (fun i v W => vs[i]? = some v ∧ W = []) where
  next := fun {i L s K} hi h k => by
    have hx : vs[i]? = some vs[i] := List.getElem?_eq_getElem hi
    refine wpAny_pyNext_list_item (h.isLit (.head _)) (h.isList (.tail _ (.head _))) (by rw [List.getElem?_toArray]; exact hx) (fun h' hit hs => ?_)
    show W prog w A (pure ()) _ _
    refine wpAny_pure (k _ [] _ ⟨hx, rfl⟩ (h.same (t := s.toks) hs ?_))
    obtain ⟨o, ho, e⟩ := hit
    exact ⟨o, ho, e⟩
  stop := fun {L s K} h k => by
    refine wpAny_pyNext_list_end hA (h.isLit (.head _)) (h.isList (.tail _ (.head _))) (by simp) (fun h' hs => k _ ?_)
    exact h.lose (W := [(it, lit l vs.length)]) (t := s.toks) (fun b o hb e => hs b o (fun q => hb (by simp [q])) e)

theorem Src.range (hA : A.handled = none) (it : Addr) (a : Int) (n : Nat) (x : Str) (p : Pos) :
    Src prog w A σ (fun _ => G) (.ref it) (.Name x p) n [] (fun i => [(it, rit (a + i) ((n : Int) - i) 1)]) (fun i v W => (∃ t, v = .int (a + i) t) ∧ W = []) where
  next := fun {i L s K} hi h k => by
    obtain ⟨o, ho, e⟩ := h.get (.head _)
    subst e
    refine wpAny_pyNext_range_item (x := a + i) (left := (n : Int) - i) (step := 1) ho (by omega) (fun h' hit hs => ?_)
    show W prog w A (pure ()) _ _
    refine wpAny_pure (k _ [] _ ⟨⟨_, rfl⟩, rfl⟩ (h.same hs ⟨_, hit, ?_⟩))
    have e1 : a + ((i + 1 : Nat) : Int) = a + i + 1 := by omega
    have e2 : (n : Int) - ((i + 1 : Nat) : Int) = (n : Int) - i - 1 := by omega
    show rit (a + ((i + 1 : Nat) : Int)) ((n : Int) - ((i + 1 : Nat) : Int)) 1 _
    rw [e1, e2]; rfl
  stop := fun {L s K} h k => by
    obtain ⟨o, ho, e⟩ := h.get (.head _)
    subst e
    refine wpAny_pyNext_range_end (x := a + n) (left := (n : Int) - n) (step := 1) hA ho (by omega) (fun h' hs => k _ ?_)
    exact h.lose (W := [(it, rit (a + n) ((n : Int) - n) 1)]) (t := s.toks) (fun b o hb e => hs b o (fun q => hb (by simp [q])) e)

def enm (it : Addr) (i : Int) : Pr := fun o => ∃ old, o = { cls := .type "enumerate", dict := none, data := .fields #[.none, .bool false, .ref it, rawInt i, .none, old], slots := #[] }

theorem Src.enum (hA : A.handled = none) (e it l : Addr) (vs : List Value) (elts : List Expr) (x1 : Nat) (p : Pos) :
    Src prog w A σ (fun _ => G) (.ref e) (.Tuple elts x1 p) vs.length [(l, lst vs)] (fun i => [(e, enm it i), (it, lit l i), (l, lst vs)])
      (fun i v W => ∃ x T t, vs[i]? = some x ∧ v = .ref T ∧ W = [(T, tup [.int i t, x])]) where
  next := fun {i L s K} hi h k => by
    have hx : vs[i]? = some vs[i] := List.getElem?_eq_getElem hi
    obtain ⟨oe, hoe, old, rfl⟩ := h.get (.head _)
    have hne : e ≠ it := by
      have := h.nd
      simp only [List.cons_append, List.map_cons, List.nodup_cons] at this
      exact fun q => this.1 (by simp [q])
    refine wpAny_pyNext_enum_item (i := i) hoe (h.isLit (.tail _ (.head _))) (h.isList (.tail _ (.tail _ (.head _)))) (by rw [List.getElem?_toArray]; exact hx) hne (fun h' he hit hT hsz hk => ?_)
    have hS : St σ G ([(e, fun o => o = { cls := .type "enumerate", dict := none, data := .fields #[rawInt s.heap.objs.size, .bool false, .ref it, rawInt ((i : Int) + 1), .none, vs[i]], slots := #[] }), (it, lit l (i + 1))] ++
        ((s.heap.objs.size, tup [.int i s.toks, vs[i]]) :: (l, lst vs) :: L)) { s with heap := h', toks := s.toks + 1 } := by
      have h1 : St σ G ((l, lst vs) :: L) { s with heap := h', toks := s.toks + 1 } := h.lose (W := [(e, enm it i), (it, lit l i)]) (fun b o hb q => hk b o (fun z => hb (by simp [z])) (fun z => hb (by simp [z])) q)
      have h0 := h.nd
      refine ⟨h1.gens, h1.drawn, h1.os, h1.keep, ?_, ?_, ?_⟩
      · intro q hq
        simp only [List.cons_append, List.nil_append, List.mem_cons] at hq
        rcases hq with rfl | rfl | rfl | rfl | hq
        · exact ⟨_, he, rfl⟩
        · exact hit
        · exact ⟨_, hT, 0, rfl⟩
        · exact h1.live _ (.head _)
        · exact h1.live _ (.tail _ hq)
      · simp only [List.cons_append, List.nil_append, List.map_cons, List.nodup_cons, List.mem_cons, not_or] at h0 ⊢
        have f1 := h.lt (p := (e, enm it i)) (.head _)
        have f2 := h.lt (p := (it, lit l i)) (.tail _ (.head _))
        have f3 := h.lt (p := (l, lst vs)) (.tail _ (.tail _ (.head _)))
        refine ⟨⟨h0.1.1, Nat.ne_of_lt f1, h0.1.2⟩, ⟨Nat.ne_of_lt f2, h0.2.1⟩, ⟨Nat.ne_of_gt f3, fun hm => ?_⟩, h0.2.2⟩
        obtain ⟨q, hq, e'⟩ := List.mem_map.mp hm
        have := h.lt (p := q) (.tail _ (.tail _ (.tail _ hq)))
        rw [e'] at this; exact Nat.lt_irrefl _ this
      · intro q hq
        simp only [List.cons_append, List.nil_append, List.mem_cons] at hq
        rcases hq with rfl | rfl | rfl | rfl | hq
        · exact h.off (e, enm it i) (.head _)
        · exact h.off (it, lit l i) (.tail _ (.head _))
        · exact h.fresh (Nat.le_refl _)
        · exact h1.off (l, lst vs) (.head _)
        · exact h1.off q (.tail _ hq)
    refine wpAny_letOwnedTupleGo_enum he (fun h₂ he₂ hs₂ => ?_)
    have h2 := hS.same (P' := enm it ((i : Int) + 1)) (t := s.toks + 1) hs₂ ⟨_, he₂, _, rfl⟩
    refine k _ [(s.heap.objs.size, tup [.int i s.toks, vs[i]])] _ ⟨_, _, _, hx, rfl, rfl⟩ ?_
    have h3 := h2.pick (E := [_, _, _, _]) (R := L) [0, 1, 3, 2]
    exact h3
  stop := fun {L s K} h k => by
    obtain ⟨oe, hoe, old, rfl⟩ := h.get (.head _)
    refine wpAny_pyNext_enum_end (i := vs.length) hA hoe (h.isLit (.tail _ (.head _))) (h.isList (.tail _ (.tail _ (.head _)))) (by simp) (fun h' hs => k _ ?_)
    have h1 := h.pick (E := [_, _, _]) (R := L) [1, 0, 2]
    exact (h1.lose (W := [(it, lit l vs.length)]) (t := s.toks) (fun b o hb e => hs b o (fun q => hb (by simp [q])) e)).sub (List.sublist_cons_self _ _)

-- FOR
def Loop (prog : Program) (w : World) (A : Around) (tg : Expr) (it : Value) (body : List Stmt) (env : Env) (Q : Flow → Shared → Prop) (s : Shared) : Prop := C prog w A (.forLoop tg it body [] env) Q s
theorem T_for {tg iter : Expr} {body : List Stmt} {pos : Pos} {Q : Flow → Shared → Prop}
    (k : W prog w A (eval iter env) (fun x s₁ => W prog w A (pyIter x) (fun it s₂ => Loop prog w A tg it body env Q s₂) s₁) s)
    (hs : ∀ x, foldedSetIterable iter env x = pure x := by intro _; rfl) : W prog w A (exec (.For tg iter body [] pos) env) Q s := by
  show W prog w A (standAt pos >>= fun _ => eval iter env >>= fun x₀ => foldedSetIterable iter env x₀ >>= fun x => standAt iter.pos >>= fun _ => holding [x] (pyIter x) >>= fun it => runOwn (.forLoop tg it body [] env) env) Q s
  refine wpAny_bind (wpAny_standAt (wpAny_bind (W.mono k (fun x s₁ h₁ => ?_))))
  rw [hs]
  refine wpAny_bind (wpAny_pure (wpAny_bind (wpAny_standAt (wpAny_bind (wpAny_holding (W.mono h₁ (fun it s₂ h₂ => ?_)))))))
  refine wpAny_runOwn (h := none) (codeAny_mono h₂ (fun r s' hr => ?_))
  cases r with
  | ok f => exact hr
  | error e => exact hr.elim

theorem noted_elim {E : Value → Shared → Prop} {α : Type} {t : Sem α} {Q : α → Shared → Prop} (h : W prog w A t Q s) : wpAny (model prog w) A t Q E s := h.any

theorem T_loop {it : Value} {tg : Expr} {body : List Stmt} {n : Nat} {D : List Cell} {I : Nat → List Cell} {V : Nat → Value → List Cell → Prop} {Gf : Nat → Array GenState → Prop} {Q : Flow → Shared → Prop}
    (S : Src prog w A σ Gf it tg n D I V) (Inv : Nat → List Cell → Prop) (h : St σ (Gf 0) (I 0 ++ L) s) (h0 : Inv 0 L)
    (turn : ∀ i v W L' s', i < n → V i v W → Inv i L' → St σ (Gf (i + 1)) (I (i + 1) ++ (W ++ L')) s' →
      Mine.W prog w A (assign tg env v) (fun _ s₂ => Mine.W prog w A (execs body env) (fun f s₃ => match f with
        | .next | .cont => ∃ L'', Inv (i + 1) L'' ∧ St σ (Gf (i + 1)) (I (i + 1) ++ L'') s₃
        | .brk => Q .next s₃
        | .ret v => Q (.ret v) s₃) s₂) s')
    (done : ∀ L' s', Inv n L' → St σ (Gf (n + 1)) (D ++ L') s' → Q .next s') : Loop prog w A tg it body env Q s := by
  refine codeAny_forLoop_any (fun m s => ∃ i L', i ≤ n ∧ m = n - i ∧ Inv i L' ∧ St σ (Gf i) (I i ++ L') s) ?_ n ⟨0, L, Nat.zero_le _, rfl, h0, h⟩
  rintro m s ⟨i, L', hi, rfl, hI, hS⟩
  rcases Nat.lt_or_eq_of_le hi with hlt | rfl
  · refine noted_elim (W.mono (S.next (K := fun v s₂ => W prog w A (assign tg env v) (fun _ s₂ => W prog w A (execs body env) (fun f s₃ => match f with
        | .next | .cont => ∃ L'', Inv (i + 1) L'' ∧ St σ (Gf (i + 1)) (I (i + 1) ++ L'') s₃
        | .brk => Q .next s₃
        | .ret v => Q (.ret v) s₃) s₂) s₂) hlt hS (fun v W s' hV hS' => turn i v W L' s' hlt hV hI hS')) (fun r s₁ hr => ?_))
    cases r with
    | none => exact hr.elim
    | some v =>
      refine noted_elim (W.mono hr (fun _ s₂ h₂ => noted_elim (W.mono h₂ (fun _ s₃ h₃ => noted_elim (W.mono h₃ (fun f s₄ h₄ => ?_))))))
      cases f with
      | next => obtain ⟨L'', q1, q2⟩ := h₄; exact ⟨n - (i + 1), by omega, i + 1, L'', hlt, rfl, q1, q2⟩
      | cont => obtain ⟨L'', q1, q2⟩ := h₄; exact ⟨n - (i + 1), by omega, i + 1, L'', hlt, rfl, q1, q2⟩
      | brk => exact h₄
      | ret v => exact h₄
  · refine noted_elim (W.mono (S.stop (K := fun s₁ => Q .next s₁) hS (fun s' hS' => done L' s' hI hS')) (fun r s₁ hr => ?_))
    cases r with
    | none => exact noted_elim (T_nil (Q := fun f s₃ => Q f s₃) hr)
    | some v => exact hr.elim
end
end Mine

namespace Mine
open PySem PySem.W PySem.Calls PyProof.Rows

def turnOf (e : Expr) (d : Nat) (it acc : Value) (env : Env) (tg : Expr) (ip : Pos) (ifs : List Expr) (inner : Sem Unit) : Sem Fin := do
  standAt ip
  match ← pyNext it with
  | none => pure (.done .next)
  | some v =>
    letOwnedTupleGo tg it v
    assign tg env v
    let mut ok := true
    for c in ifs do
      if ok then ok ← isTrue c env (eval c env)
    if ok then inner
    again (.compLoop e d it acc env)

def emitList (elt : Expr) (acc : Value) (env : Env) : Sem Unit := do let _ ← call (.builtin "list.append") [acc, ← eval elt env]
def emitDict (kx vx : Expr) (D : Addr) (env : Env) : Sem Unit := do
  let kv ← eval kx env
  let vv ← holding [kv] (eval vx env)
  standAt { kx.pos with endLine := vx.pos.endLine, endCol := vx.pos.endCol }
  holding [kv, vv] (dictSet D kv vv)
def innerComp (e : Expr) (d : Nat) (iter : Expr) (acc : Value) (env : Env) : Sem Unit := do
  let x ← eval iter env
  standAt iter.pos
  let x ← foldedSetIterable iter env x
  let _ ← runOwn (.compStart e d (← holding [x] (pyIter x)) acc env) env

def turnOf2 (e : Expr) (d d' : Nat) (it acc : Value) (env : Env) (tg : Expr) (ip : Pos) (ifs : List Expr) (iter : Expr) : Sem Fin := do
  standAt ip
  match ← pyNext it with
  | none => pure (.done .next)
  | some v =>
    letOwnedTupleGo tg it v
    assign tg env v
    let mut ok := true
    for c in ifs do
      if ok then ok ← isTrue c env (eval c env)
    if ok then
      let x ← eval iter env
      standAt iter.pos
      let x ← foldedSetIterable iter env x
      let _ ← runOwn (.compStart e d' (← holding [x] (pyIter x)) acc env) env
    again (.compLoop e d it acc env)
theorem turnOf2_eq (e : Expr) (d d' : Nat) (it acc : Value) (env : Env) (tg : Expr) (ip : Pos) (ifs : List Expr) (iter : Expr) :
    turnOf2 e d d' it acc env tg ip ifs iter = turnOf e d it acc env tg ip ifs (innerComp e d' iter acc env) := by
  unfold turnOf2 turnOf innerComp
  simp only [bind_assoc, pure_bind]

theorem turn_L1 (elt tg iter : Expr) (ifs : List Expr) (sc : Scope) (pos : Pos) (it acc : Value) (env : Env) :
    compTurn (.ListComp elt [⟨tg, iter, ifs, 0⟩] sc pos) 0 it acc env = turnOf (.ListComp elt [⟨tg, iter, ifs, 0⟩] sc pos) 0 it acc env tg iter.pos ifs (emitList elt acc env) := rfl
theorem turn_L20 (elt tg iter tg' iter' : Expr) (ifs ifs' : List Expr) (sc : Scope) (pos : Pos) (it acc : Value) (env : Env) :
    compTurn (.ListComp elt [⟨tg, iter, ifs, 0⟩, ⟨tg', iter', ifs', 0⟩] sc pos) 0 it acc env =
      turnOf (.ListComp elt [⟨tg, iter, ifs, 0⟩, ⟨tg', iter', ifs', 0⟩] sc pos) 0 it acc env tg iter.pos ifs (innerComp (.ListComp elt [⟨tg, iter, ifs, 0⟩, ⟨tg', iter', ifs', 0⟩] sc pos) 1 iter' acc env) :=
  Eq.trans (by rfl) (turnOf2_eq ..)
theorem turn_L21 (elt tg iter tg' iter' : Expr) (ifs ifs' : List Expr) (sc : Scope) (pos : Pos) (it acc : Value) (env : Env) :
    compTurn (.ListComp elt [⟨tg, iter, ifs, 0⟩, ⟨tg', iter', ifs', 0⟩] sc pos) 1 it acc env =
      turnOf (.ListComp elt [⟨tg, iter, ifs, 0⟩, ⟨tg', iter', ifs', 0⟩] sc pos) 1 it acc env tg' iter'.pos ifs' (emitList elt acc env) := rfl
theorem turn_D1 (kx vx tg iter : Expr) (ifs : List Expr) (sc : Scope) (pos : Pos) (it : Value) (D : Addr) (env : Env) :
    compTurn (.DictComp kx vx [⟨tg, iter, ifs, 0⟩] sc pos) 0 it (.ref D) env = turnOf (.DictComp kx vx [⟨tg, iter, ifs, 0⟩] sc pos) 0 it (.ref D) env tg iter.pos ifs (emitDict kx vx D env) := rfl
theorem turn_D20 (kx vx tg iter tg' iter' : Expr) (ifs ifs' : List Expr) (sc : Scope) (pos : Pos) (it : Value) (D : Addr) (env : Env) :
    compTurn (.DictComp kx vx [⟨tg, iter, ifs, 0⟩, ⟨tg', iter', ifs', 0⟩] sc pos) 0 it (.ref D) env =
      turnOf (.DictComp kx vx [⟨tg, iter, ifs, 0⟩, ⟨tg', iter', ifs', 0⟩] sc pos) 0 it (.ref D) env tg iter.pos ifs (innerComp (.DictComp kx vx [⟨tg, iter, ifs, 0⟩, ⟨tg', iter', ifs', 0⟩] sc pos) 1 iter' (.ref D) env) :=
  Eq.trans (by rfl) (turnOf2_eq ..)
theorem turn_D21 (kx vx tg iter tg' iter' : Expr) (ifs ifs' : List Expr) (sc : Scope) (pos : Pos) (it : Value) (D : Addr) (env : Env) :
    compTurn (.DictComp kx vx [⟨tg, iter, ifs, 0⟩, ⟨tg', iter', ifs', 0⟩] sc pos) 1 it (.ref D) env =
      turnOf (.DictComp kx vx [⟨tg, iter, ifs, 0⟩, ⟨tg', iter', ifs', 0⟩] sc pos) 1 it (.ref D) env tg' iter'.pos ifs' (emitDict kx vx D env) := rfl

section
variable {prog : Program} {w : World} {A : Around} {σ s : Shared} {G : Array GenState → Prop} {L L' : List Cell} {env : Env}

/-- the tests of a comprehension's clause -/
def Tests (prog : Program) (w : World) (A : Around) (ifs : List Expr) (env : Env) (Q : Bool → Shared → Prop) (s : Shared) : Prop :=
  W prog w A (forIn ifs true fun c r => if r = true then do let ok ← isTrue c env (eval c env); pure (ForInStep.yield ok) else pure (ForInStep.yield r)) Q s
theorem T_tests0 {Q : Bool → Shared → Prop} (k : Q true s) : Tests prog w A [] env Q s := wpAny_tests_nil k
theorem T_tests1 {c : Expr} {Q : Bool → Shared → Prop} (k : W prog w A (isTrue c env (eval c env)) Q s) : Tests prog w A [c] env Q s := wpAny_tests_one k

abbrev CL (prog : Program) (w : World) (A : Around) (e : Expr) (d : Nat) (it acc : Value) (env : Env) (Q : Shared → Prop) (s : Shared) : Prop := C prog w A (.compLoop e d it acc env) (fun _ s' => Q s') s

theorem T_compLoop {e : Expr} {d : Nat} {it acc : Value} {tg : Expr} {ip : Pos} {ifs : List Expr} {inner : Sem Unit} {n : Nat} {D : List Cell} {I : Nat → List Cell} {V : Nat → Value → List Cell → Prop} {Gf : Nat → Array GenState → Prop} {Q : Shared → Prop}
    (ht : compTurn e d it acc env = turnOf e d it acc env tg ip ifs inner)
    (S : Src prog w A σ Gf it tg n D I V) (Inv : Nat → List Cell → Prop) (h : St σ (Gf 0) (I 0 ++ L) s) (h0 : Inv 0 L)
    (turn : ∀ i v W L' s', i < n → V i v W → Inv i L' → St σ (Gf (i + 1)) (I (i + 1) ++ (W ++ L')) s' →
      Mine.W prog w A (assign tg env v) (fun _ s₂ => Tests prog w A ifs env (fun ok s₃ =>
        if ok = true then Mine.W prog w A inner (fun _ s₄ => ∃ L'', Inv (i + 1) L'' ∧ St σ (Gf (i + 1)) (I (i + 1) ++ L'') s₄) s₃ else ∃ L'', Inv (i + 1) L'' ∧ St σ (Gf (i + 1)) (I (i + 1) ++ L'') s₃) s₂) s')
    (done : ∀ L' s', Inv n L' → St σ (Gf (n + 1)) (D ++ L') s' → Q s')
    (hq : (Code.compLoop e d it acc env).quiet = true := by rfl) (hf : (Code.compLoop e d it acc env).isFrame = false := by rfl)
    (hu : A.under (Code.compLoop e d it acc env) = A := by exact Around.under_of_weight rfl) : CL prog w A e d it acc env Q s := by
  refine codeAny_loop hq (fun m s => ∃ i L', i ≤ n ∧ m = n - i ∧ Inv i L' ∧ St σ (Gf i) (I i ++ L') s) ?_ n ⟨0, L, Nat.zero_le _, rfl, h0, h⟩
  rintro m s ⟨i, L', hi, rfl, hI, hS⟩
  rw [hu]
  show wpAny _ A (denote table (.compLoop e d it acc env)) _ _ s
  have hden : denote table (.compLoop e d it acc env) = (compTurn e d it acc env).onRaise (fun x => do noteFrame x env; theTreesLotGoes x) := by
    show (if (Code.compLoop e d it acc env).isFrame = true then _ else _) = _
    rw [hf]; rfl
  rw [hden]
  refine wpAny_noted (noted_elim ?_)
  rw [ht]
  unfold turnOf
  refine wpAny_bind (wpAny_standAt (wpAny_bind ?_))
  rcases Nat.lt_or_eq_of_le hi with hlt | rfl
  · refine W.mono (S.next (K := fun v s₂ => W prog w A (assign tg env v) (fun _ s₂ => Tests prog w A ifs env (fun ok s₃ =>
        if ok = true then W prog w A inner (fun _ s₄ => ∃ L'', Inv (i + 1) L'' ∧ St σ (Gf (i + 1)) (I (i + 1) ++ L'') s₄) s₃ else ∃ L'', Inv (i + 1) L'' ∧ St σ (Gf (i + 1)) (I (i + 1) ++ L'') s₃) s₂) s₂) hlt hS (fun v W s' hV hS' => turn i v W L' s' hlt hV hI hS')) (fun r s₁ hr => ?_)
    cases r with
    | none => exact hr.elim
    | some v =>
      refine wpAny_bind (W.mono hr (fun _ s₂ h₂ => wpAny_bind (W.mono h₂ (fun _ s₃ h₃ => wpAny_bind (W.mono h₃ (fun ok s₄ h₄ => ?_))))))
      cases ok with
      | true =>
        refine wpAny_bind (W.mono h₄ (fun _ s₅ h₅ => ?_))
        obtain ⟨L'', q1, q2⟩ := h₅
        exact wpAny_pure ⟨rfl, n - (i + 1), by omega, i + 1, L'', hlt, rfl, q1, q2⟩
      | false =>
        obtain ⟨L'', q1, q2⟩ := h₄
        exact wpAny_pure ⟨rfl, n - (i + 1), by omega, i + 1, L'', hlt, rfl, q1, q2⟩
  · refine W.mono (S.stop (K := fun s₁ => Q s₁) hS (fun s' hS' => done L' s' hI hS')) (fun r s₁ hr => ?_)
    cases r with
    | none => exact wpAny_pure hr
    | some v => exact hr.elim

theorem T_compStart {e : Expr} {d : Nat} {it acc : Value} {g : Comprehension} {Q : Shared → Prop} (hg : (clausesOf e)[d]? = some g) (ha : (g.is_async != 0) = false)
    (h0 : CL prog w A e d it acc env Q s) (h1 : W prog w A (pyIter it) (fun it' s' => CL prog w A e d it' acc env Q s') s)
    (hf : (Code.compStart e d it acc env).isFrame = false := by rfl) (hu : A.under (Code.compStart e d it acc env) = A := by exact Around.under_of_weight rfl)
    (hq : ∀ it', (Code.compLoop e d it' acc env).quiet = true := by intro _; rfl) : C prog w A (.compStart e d it acc env) (fun _ s' => Q s') s := by
  refine codeAny_of_tree ?_
  rw [hu]
  show wpAny _ A (denote table (.compStart e d it acc env)) _ _ s
  have hden : denote table (.compStart e d it acc env) = (compStart e d it acc env).onRaise (fun x => do noteFrame x env; standAt theWindowsPlace) := by
    show (if (Code.compStart e d it acc env).isFrame = true then _ else _) = _
    rw [hf]; rfl
  rw [hden]
  refine wpAny_notedAt (noted_elim ?_)
  unfold compStart
  rw [hg]
  have e1 : (some g).elim false (fun x => x.is_async != 0) = false := ha
  simp only [e1, Bool.false_eq_true, if_false]
  first
    | refine wpAny_bind (wpAny_askSetting ?_)
    | refine wpAny_bind (wpAny_pure (wpAny_bind (wpAny_askSetting ?_)))
  refine wpAny_ite ?_
  split
  · first
      | exact wpAny_bind (wpAny_pure (wpAny_pure (And.intro (hq _) h0)))
      | exact wpAny_pure (And.intro (hq _) h0)
  · refine wpAny_bind (wpAny_rule ?_)
    first
      | exact wpAny_bind (wpAny_standAt (wpAny_bind (W.mono h1 (fun it' s' h' => wpAny_pure (And.intro (hq _) h')))))
      | exact wpAny_bind (wpAny_bind (wpAny_standAt (wpAny_bind (W.mono h1 (fun it' s' h' => wpAny_pure (And.intro (hq _) h'))))))
end
end Mine

namespace Mine
open PySem PySem.W PySem.Calls PyProof.Rows

section
variable {prog : Program} {w : World} {A : Around} {σ s : Shared} {G : Array GenState → Prop} {L L' : List Cell} {env : Env}

def CRun (prog : Program) (w : World) (A : Around) (e : Expr) (scope : Scope) (cl : List (Str × Addr)) (newAcc : Sem Value) (use : Option (Value → Sem Unit)) (env : Env) (it : Value) (Q : Value → Shared → Prop) (s : Shared) : Prop :=
  W prog w A newAcc (fun acc s₃ => W prog w A (newFunctionEnv scope env.globals cl [] env.qual none .none (some env)) (fun cenv s₄ =>
    codeAny (model prog w) A (.compStart e 0 it acc { cenv with scope := relabel scope env }) (compPost (model prog w) A (fun _ _ => False) use Q acc cenv.locals) s₄) s₃) s

theorem names_ok {scope : Scope} (h : scope.names.all (fun x => !(x.2 == .local) || decide (scope.names.lookup x.1 = some .local)) = true) : ∀ x ∈ scope.names, x.2 = .local → scope.names.lookup x.1 = some .local := by
  intro x hx hl
  have := List.all_eq_true.mp h x hx
  simp only [hl, beq_self_eq_true, Bool.not_true, Bool.false_or, decide_eq_true_eq] at this
  exact this
theorem nocell_ok {scope : Scope} (h : scope.names.all (fun x => !(x.2 == .cell)) = true) : ∀ x ∈ scope.names, x.2 ≠ .cell := by
  intro x hx hl
  have := List.all_eq_true.mp h x hx
  simp [hl] at this

theorem T_listComp {elt : Expr} {tg iter : Expr} {ifs : List Expr} {gs : List Comprehension} {scope : Scope} {pos : Pos} (cl : List (Str × Addr)) {Q : Value → Shared → Prop} (hclos : closureFor scope env = pure cl)
    (k : W prog w A (eval iter env) (fun x s₁ => W prog w A (pyIter x) (fun it s₂ => CRun prog w A (.ListComp elt (⟨tg, iter, ifs, 0⟩ :: gs) scope pos) scope cl (newList []) none env it Q s₂) s₁) s)
    (hs : ∀ x, foldedSetIterable iter env x = pure x := by intro _; rfl) (hk : scope.kind = .function := by rfl)
    (hn : scope.names.all (fun x => !(x.2 == .local) || decide (scope.names.lookup x.1 = some .local)) = true := by decide +kernel) (ha : firstAsync (⟨tg, iter, ifs, 0⟩ :: gs) = false := by rfl) :
    W prog w A (eval (.ListComp elt (⟨tg, iter, ifs, 0⟩ :: gs) scope pos) env) Q s := by
  rw [arm_eval_ListComp]
  show W prog w A (comprehension (.ListComp elt (⟨tg, iter, ifs, 0⟩ :: gs) scope pos) scope env _ (newList []) (firstAsync (⟨tg, iter, ifs, 0⟩ :: gs)) (eval iter env)) Q s
  rw [ha]
  exact wpAny_comprehension_free (g := ⟨tg, iter, ifs, 0⟩) (gs := gs) rfl hs hclos hk (names_ok hn) k
theorem T_dictComp {kx vx : Expr} {tg iter : Expr} {ifs : List Expr} {gs : List Comprehension} {scope : Scope} {pos : Pos} (cl : List (Str × Addr)) {Q : Value → Shared → Prop} (hclos : closureFor scope env = pure cl)
    (k : W prog w A (eval iter env) (fun x s₁ => W prog w A (pyIter x) (fun it s₂ => CRun prog w A (.DictComp kx vx (⟨tg, iter, ifs, 0⟩ :: gs) scope pos) scope cl newDict none env it Q s₂) s₁) s)
    (hs : ∀ x, foldedSetIterable iter env x = pure x := by intro _; rfl) (hk : scope.kind = .function := by rfl)
    (hn : scope.names.all (fun x => !(x.2 == .local) || decide (scope.names.lookup x.1 = some .local)) = true := by decide +kernel) (ha : firstAsync (⟨tg, iter, ifs, 0⟩ :: gs) = false := by rfl) :
    W prog w A (eval (.DictComp kx vx (⟨tg, iter, ifs, 0⟩ :: gs) scope pos) env) Q s := by
  rw [arm_eval_DictComp]
  show W prog w A (comprehension (.DictComp kx vx (⟨tg, iter, ifs, 0⟩ :: gs) scope pos) scope env _ newDict (firstAsync (⟨tg, iter, ifs, 0⟩ :: gs)) (eval iter env)) Q s
  rw [ha]
  exact wpAny_comprehension_free (g := ⟨tg, iter, ifs, 0⟩) (gs := gs) rfl hs hclos hk (names_ok hn) k
/-- x = [..]: the list is stored before the comprehension's names go -/
theorem T_assignListComp {elt : Expr} {tg iter : Expr} {ifs : List Expr} {gs : List Comprehension} {scope : Scope} {pos spos pos' : Pos} {x : Str} (cl : List (Str × Addr)) {Q : Flow → Shared → Prop} (hclos : closureFor scope env = pure cl)
    (k : W prog w A (eval iter env) (fun x₀ s₁ => W prog w A (pyIter x₀) (fun it s₂ => CRun prog w A (.ListComp elt (⟨tg, iter, ifs, 0⟩ :: gs) scope pos) scope cl (newList []) (some (assign (.Name x pos') env)) env it (fun _ => Q .next) s₂) s₁) s)
    (hsw : swapsWith (.ListComp elt (⟨tg, iter, ifs, 0⟩ :: gs) scope pos) (some (.Name x pos')) spos.line env = pure true := by rfl)
    (hs : ∀ x, foldedSetIterable iter env x = pure x := by intro _; rfl) (hk : scope.kind = .function := by rfl)
    (hn : scope.names.all (fun x => !(x.2 == .local) || decide (scope.names.lookup x.1 = some .local)) = true := by decide +kernel) (ha : firstAsync (⟨tg, iter, ifs, 0⟩ :: gs) = false := by rfl) :
    W prog w A (exec (.Assign [.Name x pos'] (.ListComp elt (⟨tg, iter, ifs, 0⟩ :: gs) scope pos) spos) env) Q s := by
  rw [exec_Assign_Name_used _ _ _ _ hsw, arm_evalThenUse_ListComp]
  refine wpAny_bind (wpAny_standAt (wpAny_bind (wpAny_bind ?_)))
  show W prog w A (comprehension (.ListComp elt (⟨tg, iter, ifs, 0⟩ :: gs) scope pos) scope env _ (newList []) (firstAsync (⟨tg, iter, ifs, 0⟩ :: gs)) (eval iter env) (some (assign (.Name x pos') env))) _ s
  rw [ha]
  refine W.mono (wpAny_comprehension_free (g := ⟨tg, iter, ifs, 0⟩) (gs := gs) rfl hs hclos hk (names_ok hn) k) (fun a s' h => wpAny_pure (wpAny_pure h))
theorem T_assignDictComp {kx vx : Expr} {tg iter : Expr} {ifs : List Expr} {gs : List Comprehension} {scope : Scope} {pos spos pos' : Pos} {x : Str} (cl : List (Str × Addr)) {Q : Flow → Shared → Prop} (hclos : closureFor scope env = pure cl)
    (k : W prog w A (eval iter env) (fun x₀ s₁ => W prog w A (pyIter x₀) (fun it s₂ => CRun prog w A (.DictComp kx vx (⟨tg, iter, ifs, 0⟩ :: gs) scope pos) scope cl newDict (some (assign (.Name x pos') env)) env it (fun _ => Q .next) s₂) s₁) s)
    (hsw : swapsWith (.DictComp kx vx (⟨tg, iter, ifs, 0⟩ :: gs) scope pos) (some (.Name x pos')) spos.line env = pure true := by rfl)
    (hs : ∀ x, foldedSetIterable iter env x = pure x := by intro _; rfl) (hk : scope.kind = .function := by rfl)
    (hn : scope.names.all (fun x => !(x.2 == .local) || decide (scope.names.lookup x.1 = some .local)) = true := by decide +kernel) (ha : firstAsync (⟨tg, iter, ifs, 0⟩ :: gs) = false := by rfl) :
    W prog w A (exec (.Assign [.Name x pos'] (.DictComp kx vx (⟨tg, iter, ifs, 0⟩ :: gs) scope pos) spos) env) Q s := by
  rw [exec_Assign_Name_used _ _ _ _ hsw, arm_evalThenUse_DictComp]
  refine wpAny_bind (wpAny_standAt (wpAny_bind (wpAny_bind ?_)))
  show W prog w A (comprehension (.DictComp kx vx (⟨tg, iter, ifs, 0⟩ :: gs) scope pos) scope env _ newDict (firstAsync (⟨tg, iter, ifs, 0⟩ :: gs)) (eval iter env) (some (assign (.Name x pos') env))) _ s
  rw [ha]
  refine W.mono (wpAny_comprehension_free (g := ⟨tg, iter, ifs, 0⟩) (gs := gs) rfl hs hclos hk (names_ok hn) k) (fun a s' h => wpAny_pure (wpAny_pure h))

theorem fr_nil_dict : fr [] { cls := .type "dict", data := .dict #[] } := ⟨#[], 0, rfl, fun e he => by simp at he, fun p hp => nomatch hp⟩

theorem T_newFrame {scope : Scope} {cl : List (Str × Addr)} {Q : Env → Shared → Prop} (h : St σ G L s) (hc : ∀ x ∈ scope.names, x.2 ≠ .cell) (hk : scope.kind = .function)
    (k : ∀ Cc s', St σ G ((Cc, fr []) :: L) s' → Q (newEnv scope Cc env.globals cl env.qual none .none (some env) 0) s') :
    W prog w A (newFunctionEnv scope env.globals cl [] env.qual none .none (some env)) Q s := by
  refine wpAny_newFunctionEnv hc (by intro y hy; simp at hy) (fun h₁ hns hsb => ?_) hk
  have h1 := h.push (P := fr []) (o := { cls := .type "dict", data := .dict #[] }) (t := s.toks) rfl fr_nil_dict
  refine k _ _ (h1.same (P' := fr []) (t := s.toks + 0) hsb ?_)
  obtain ⟨o, es, ep, ho, hd, hsk, _⟩ := hns
  exact ⟨o, ho, es, ep, hd, hsk, fun p hp => nomatch hp⟩

theorem comp_end {Cc : Addr} {lx : List (Str × Value)} {L'' : List Cell} (h : St σ G ((Cc, fr lx) :: L'') s) :
    ∃ m, s.heap.Ns Cc m ∧ ∀ h', Heap.SameBut Cc s.heap h' → St σ G L'' { s with heap := h' } := by
  obtain ⟨m, hm, _⟩ := h.ns (.head _)
  exact ⟨m, hm, fun h' hs => h.lose (W := [(Cc, fr lx)]) (t := s.toks) (fun b o hb e => (hs.2 b (fun q => hb (by simp [q]))).trans e)⟩

theorem T_crun {e : Expr} {scope : Scope} {cl : List (Str × Addr)} {newAcc : Sem Value} {it : Value} {P0 : Pr} {Q : Value → Shared → Prop} (h : St σ G L s)
    (hacc : ∀ (Q : Value → Shared → Prop), (∀ a s', St σ G ((a, P0) :: L) s' → Q (.ref a) s') → W prog w A newAcc Q s)
    (k : ∀ a Cc s', St σ G ((Cc, fr []) :: (a, P0) :: L) s' → C prog w A (.compStart e 0 it (.ref a) (compEnvC scope cl Cc env)) (fun _ s'' => ∃ lx L'', St σ G ((Cc, fr lx) :: L'') s'' ∧ ∀ s₃, St σ G L'' s₃ → Q (.ref a) s₃) s')
    (hk : scope.kind = .function := by rfl) (hc : scope.names.all (fun x => !(x.2 == .cell)) = true := by decide +kernel) : CRun prog w A e scope cl newAcc none env it Q s := by
  refine hacc _ (fun a s₃ h₃ => T_newFrame h₃ (nocell_ok hc) hk (fun Cc s₄ h₄ => codeAny_mono (k a Cc s₄ h₄) (fun r s' hr => ?_)))
  cases r with
  | error x => exact hr.elim
  | ok f =>
    obtain ⟨lx, L'', hS, hq⟩ := hr
    obtain ⟨m, hm, hx⟩ := comp_end hS
    exact ⟨m, hm, fun h' hs => hq _ (hx h' hs)⟩

theorem T_crunUse {e : Expr} {scope : Scope} {cl : List (Str × Addr)} {newAcc : Sem Value} {it : Value} {P0 : Pr} {u : Value → Sem Unit} {Q : Value → Shared → Prop} (h : St σ G L s)
    (hacc : ∀ (Q : Value → Shared → Prop), (∀ a s', St σ G ((a, P0) :: L) s' → Q (.ref a) s') → W prog w A newAcc Q s)
    (k : ∀ a Cc s', St σ G ((Cc, fr []) :: (a, P0) :: L) s' → C prog w A (.compStart e 0 it (.ref a) (compEnvC scope cl Cc env)) (fun _ s'' => W prog w A (u (.ref a)) (fun _ s₂ => ∃ lx L'', St σ G ((Cc, fr lx) :: L'') s₂ ∧ ∀ s₃, St σ G L'' s₃ → Q .none s₃) s'') s')
    (hk : scope.kind = .function := by rfl) (hc : scope.names.all (fun x => !(x.2 == .cell)) = true := by decide +kernel) : CRun prog w A e scope cl newAcc (some u) env it Q s := by
  refine hacc _ (fun a s₃ h₃ => T_newFrame h₃ (nocell_ok hc) hk (fun Cc s₄ h₄ => codeAny_mono (k a Cc s₄ h₄) (fun r s' hr => ?_)))
  cases r with
  | error x => exact hr.elim
  | ok f =>
    refine W.mono hr (fun _ s₂ h₂ => ?_)
    obtain ⟨lx, L'', hS, hq⟩ := h₂
    obtain ⟨m, hm, hx⟩ := comp_end hS
    exact ⟨m, hm, fun h' hs => hq _ (hx h' hs)⟩

theorem T_compStart1 {e : Expr} {d : Nat} {it acc : Value} {g : Comprehension} {Q : Shared → Prop} (hg : (clausesOf e)[d]? = some g) (ha : (g.is_async != 0) = false)
    (hi : ∀ Q' : Value → Shared → Prop, Q' it s → W prog w A (pyIter it) Q' s) (k : CL prog w A e d it acc env Q s)
    (hf : (Code.compStart e d it acc env).isFrame = false := by rfl) (hu : A.under (Code.compStart e d it acc env) = A := by exact Around.under_of_weight rfl)
    (hq : ∀ it', (Code.compLoop e d it' acc env).quiet = true := by intro _; rfl) : C prog w A (.compStart e d it acc env) (fun _ s' => Q s') s := T_compStart hg ha k (hi _ k) hf hu hq

theorem T_innerComp {e : Expr} {d : Nat} {iter : Expr} {acc : Value} {Q : Unit → Shared → Prop}
    (k : W prog w A (eval iter env) (fun x s₁ => W prog w A (pyIter x) (fun it s₂ => C prog w A (.compStart e d it acc env) (fun _ s₃ => Q () s₃) s₂) s₁) s)
    (hs : ∀ x, foldedSetIterable iter env x = pure x := by intro _; rfl) : W prog w A (innerComp e d iter acc env) Q s := by
  unfold innerComp
  refine wpAny_bind (W.mono k (fun x s₁ h₁ => wpAny_bind (wpAny_standAt ?_)))
  rw [hs]
  refine wpAny_bind (wpAny_pure (wpAny_bind (wpAny_holding (W.mono h₁ (fun it s₂ h₂ => ?_)))))
  refine wpAny_bind (wpAny_runOwn (h := none) (codeAny_mono h₂ (fun r s' hr => ?_)))
  cases r with
  | ok f => exact wpAny_pure hr
  | error e => exact hr.elim
theorem T_emitList {elt : Expr} {acc : Value} {Q : Unit → Shared → Prop} (k : W prog w A (eval elt env) (fun v s₁ => W prog w A (call (.builtin "list.append") [acc, v]) (fun _ s₂ => Q () s₂) s₁) s) : W prog w A (emitList elt acc env) Q s := by
  unfold emitList
  exact wpAny_bind (W.mono k (fun v s₁ h₁ => wpAny_bind (W.mono h₁ (fun _ s₂ h₂ => wpAny_pure h₂))))
theorem T_emitDict {kx vx : Expr} {D : Addr} {Q : Unit → Shared → Prop} (k : W prog w A (eval kx env) (fun a s₁ => W prog w A (eval vx env) (fun b s₂ => W prog w A (dictSet D a b) Q s₂) s₁) s) : W prog w A (emitDict kx vx D env) Q s := by
  unfold emitDict
  exact wpAny_bind (W.mono k (fun v s₁ h₁ => wpAny_bind (wpAny_holding (W.mono h₁ (fun b s₂ h₂ => wpAny_bind (wpAny_standAt (wpAny_holding h₂)))))))
end
end Mine

namespace Mine
open PySem PySem.W PySem.Calls PyProof.Rows

/-- a list of these ints -/
def ils (ns : List Int) : Pr := fun o => ∃ vs, IntsAre vs ns ∧ lst vs o

theorem intsAre_set {vs : List Value} {ns : List Int} (h : IntsAre vs ns) (i : Nat) (x : Int) (t : Tok) : IntsAre (vs.set i (.int x t)) (ns.set i x) := by
  induction h generalizing i with
  | nil => exact .nil
  | cons n u h ih => cases i with
    | zero => exact .cons _ _ h
    | succ i => exact .cons _ _ (ih i)
theorem intsAre_erase {vs : List Value} {ns : List Int} (h : IntsAre vs ns) (i : Nat) : IntsAre (vs.eraseIdx i) (ns.eraseIdx i) := by
  induction h generalizing i with
  | nil => exact .nil
  | cons n u h ih => cases i with
    | zero => exact h
    | succ i => exact .cons _ _ (ih i)

section
variable {prog : Program} {w : World} {A : Around} {σ s : Shared} {G : Array GenState → Prop} {L L' : List Cell} {env : Env}

/-- the ints' list is opened: its values are named -/
theorem St.openI {F R : List Cell} {a : Addr} {ns : List Int} (h : St σ G (F ++ (a, ils ns) :: R) s) : ∃ vs, IntsAre vs ns ∧ St σ G (F ++ (a, lst vs) :: R) s := by
  obtain ⟨o, ho, vs, hv, hl⟩ := h.get (List.mem_append_right _ (.head _))
  refine ⟨vs, hv, h.gens, h.drawn, h.os, h.keep, fun p hp => ?_, ?_, fun p hp => ?_⟩
  · rcases List.mem_append.mp hp with hp | hp
    · exact h.live p (List.mem_append_left _ hp)
    · rcases List.mem_cons.mp hp with rfl | hp
      · exact ⟨o, ho, hl⟩
      · exact h.live p (List.mem_append_right _ (.tail _ hp))
  · have := h.nd
    simp only [List.map_append, List.map_cons] at this ⊢
    exact this
  · rcases List.mem_append.mp hp with hp | hp
    · exact h.off p (List.mem_append_left _ hp)
    · rcases List.mem_cons.mp hp with rfl | hp
      · exact h.off (a, ils ns) (List.mem_append_right _ (.head _))
      · exact h.off p (List.mem_append_right _ (.tail _ hp))
theorem St.shut {F R : List Cell} {a : Addr} {P P' : Pr} (h : St σ G (F ++ (a, P) :: R) s) (hi : ∀ o, P o → P' o) : St σ G (F ++ (a, P') :: R) s := by
  exact ((h.perm List.perm_middle).weaken hi).perm List.perm_middle.symm

theorem Put.to {P P' P'' : Pr} {a : Addr} {L L' : List Cell} (h : Put a P P' L L') : ∃ F R, L = F ++ (a, P) :: R ∧ L' = F ++ (a, P') :: R ∧ Put a P'' P' (F ++ (a, P'') :: R) L' := by
  obtain ⟨F, R, e1, e2⟩ := h.split
  refine ⟨F, R, e1, e2, ?_⟩
  subst e2
  clear h e1
  induction F with
  | nil => exact .here
  | cons c F ih => exact .there ih

theorem has_split {a : Addr} {P : Pr} {L : List Cell} (h : (a, P) ∈ L) : ∃ F R, L = F ++ (a, P) :: R := List.append_of_mem h

theorem I_newList {ns : List Int} {Q : Value → Shared → Prop} {vs : List Value} (h : St σ G L s) (hv : IntsAre vs ns) (k : ∀ a s', St σ G ((a, ils ns) :: L) s' → Q (.ref a) s') (hz : vs.length ≤ 1000 := by simp) : W prog w A (newList vs) Q s :=
  T_newList h (fun a s' h' => k a s' (h'.weaken fun o ho => ⟨vs, hv, ho⟩)) hz
theorem I_item {value slice : Expr} {l : Addr} {ns : List Int} {i : Int} {t : Tok} {x : Int} {Q : Value → Shared → Prop} (h : St σ G L s) (hl : (l, ils ns) ∈ L) (h0 : 0 ≤ i) (hx : ns[i.toNat]? = some x) (hz : ns.length ≤ 1000) (k : ∀ t, Q (.int x t) s)
    (hs : subscripted slice false (.ref l) (.int i t) = operate [.ref l, .int i t] (getItem (.ref l) (.int i t)) := by with_unfolding_all rfl) :
    W prog w A (subscriptTail value slice (.ref l) (.int i t)) Q s := by
  obtain ⟨F, R, rfl⟩ := has_split hl
  obtain ⟨vs, hv, h'⟩ := h.openI
  obtain ⟨u, hu⟩ := hv.get _ _ hx
  exact T_item h' (List.mem_append_right _ (.head _)) h0 hu (by rw [hv.length]; exact hz) (k u) hs
theorem I_len {l : Addr} {ns : List Int} {Q : Value → Shared → Prop} (h : St σ G L s) (hl : (l, ils ns) ∈ L) (hz : ns.length ≤ 1000) (k : ∀ t s', St σ G L s' → Q (.int ns.length t) s') :
    W prog w A (call (.builtin "len") [.ref l]) Q s := by
  obtain ⟨F, R, rfl⟩ := has_split hl
  obtain ⟨vs, hv, h'⟩ := h.openI
  exact T_len h' (List.mem_append_right _ (.head _)) (by rw [hv.length]; exact hz) (fun t s' hs => by rw [hv.length]; exact k t s' (hs.shut fun o ho => ⟨vs, hv, ho⟩))
theorem I_truthy {a : Addr} {ns : List Int} {Q : Bool → Shared → Prop} (h : St σ G L s) (hl : (a, ils ns) ∈ L) (hz : ns.length ≤ 1000) (k : ∀ s', St σ G L s' → Q (!ns.isEmpty) s') : W prog w A (truthy (.ref a)) Q s := by
  obtain ⟨F, R, rfl⟩ := has_split hl
  obtain ⟨vs, hv, h'⟩ := h.openI
  refine T_truthyList h' (List.mem_append_right _ (.head _)) (by rw [hv.length]; exact hz) (fun s' hs => ?_)
  have e : vs.isEmpty = ns.isEmpty := by cases hv <;> rfl
  rw [e]; exact k s' (hs.shut fun o ho => ⟨vs, hv, ho⟩)
theorem I_getAppend {l : Addr} {ns : List Int} {pl : Sem Bool} {Q : Value × List Value → Shared → Prop} (h : St σ G L s) (hl : (l, ils ns) ∈ L) (k : Q (.builtin "list.append", [.ref l]) s) : W prog w A (getMethod (.ref l) "append" pl) Q s := by
  obtain ⟨F, R, rfl⟩ := has_split hl
  obtain ⟨vs, hv, h'⟩ := h.openI
  exact T_getAppend h' (List.mem_append_right _ (.head _)) k
theorem I_getIndex {l : Addr} {ns : List Int} {pl : Sem Bool} {Q : Value × List Value → Shared → Prop} (h : St σ G L s) (hl : (l, ils ns) ∈ L) (k : Q (.builtin "list.index", [.ref l]) s) : W prog w A (getMethod (.ref l) "index" pl) Q s := by
  obtain ⟨F, R, rfl⟩ := has_split hl
  obtain ⟨vs, hv, h'⟩ := h.openI
  exact T_getIndex h' (List.mem_append_right _ (.head _)) k
theorem I_getPop {l : Addr} {ns : List Int} {pl : Sem Bool} {Q : Value × List Value → Shared → Prop} (h : St σ G L s) (hl : (l, ils ns) ∈ L) (k : Q (.builtin "list.pop", [.ref l]) s) : W prog w A (getMethod (.ref l) "pop" pl) Q s := by
  obtain ⟨F, R, rfl⟩ := has_split hl
  obtain ⟨vs, hv, h'⟩ := h.openI
  exact T_getPop h' (List.mem_append_right _ (.head _)) k
theorem I_append {l : Addr} {ns : List Int} {x : Int} {t : Tok} {Q : Value → Shared → Prop} (h : St σ G L s) (hp : Put l (ils ns) (ils (ns ++ [x])) L L') (hz : ns.length ≤ 1000) (k : ∀ s', St σ G L' s' → Q .none s') :
    W prog w A (call (.builtin "list.append") [.ref l, .int x t]) Q s := by
  obtain ⟨F, R, rfl, rfl⟩ := hp.split
  obtain ⟨vs, hv, h'⟩ := h.openI
  refine T_append (L' := F ++ (l, lst (vs ++ [.int x t])) :: R) h' ?_ (by rw [hv.length]; exact hz) (fun s' hs => k s' (hs.shut fun o ho => ⟨_, IntsAre.append hv (.cons x t .nil), ho⟩))
  clear hp h h' k
  induction F with
  | nil => exact .here
  | cons c F ih => exact .there ih
theorem put_mid {a : Addr} {P P' : Pr} {R : List Cell} : ∀ F : List Cell, Put a P P' (F ++ (a, P) :: R) (F ++ (a, P') :: R)
  | [] => .here
  | _ :: F => .there (put_mid F)
theorem I_setItem {l : Addr} {ns : List Int} {i : Int} {t : Tok} {x : Int} {u : Tok} {Q : Unit → Shared → Prop} (h : St σ G L s) (hp : Put l (ils ns) (ils (ns.set i.toNat x)) L L') (h0 : 0 ≤ i) (hi : i < ns.length) (hz : ns.length ≤ 1000)
    (k : ∀ s', St σ G L' s' → Q () s') : W prog w A (setItem (.ref l) (.int i t) (.int x u)) Q s := by
  obtain ⟨F, R, rfl, rfl⟩ := hp.split
  obtain ⟨vs, hv, h'⟩ := h.openI
  exact T_setItem h' (put_mid F) rfl h0 (by rw [hv.length]; exact hi) (by rw [hv.length]; exact hz) (fun s' hs => k s' (hs.shut fun o ho => ⟨_, intsAre_set hv _ _ _, ho⟩))
theorem I_index {l : Addr} {ns : List Int} {x : Int} {t : Tok} {j : Nat} {Q : Value → Shared → Prop} (h : St σ G L s) (hl : (l, ils ns) ∈ L) (hz : ns.length ≤ 1000) (hj : ns[j]? = some x) (hno : ∀ m y, m < j → ns[m]? = some y → y ≠ x) (k : ∀ t s', St σ G L s' → Q (.int j t) s') :
    W prog w A (call (.builtin "list.index") [.ref l, .int x t]) Q s := by
  obtain ⟨F, R, rfl⟩ := has_split hl
  obtain ⟨vs, hv, h'⟩ := h.openI
  obtain ⟨u, hu⟩ := hv.get _ _ hj
  refine T_index (e := fun v => match v with | .int y _ => y == x | _ => false) h' (List.mem_append_right _ (.head _)) (by rw [hv.length]; exact hz) (fun y hy => ?_) hu (by simp) (fun m y hm he => ?_)
    (fun t s' hs => k t s' (hs.shut fun o ho => ⟨vs, hv, ho⟩))
  · obtain ⟨n, t', rfl⟩ := hv.all y hy
    exact PySem.MeetsSeq.EqGives.int _ _ _ _
  · obtain ⟨n, t', rfl, hn⟩ := IntsAre.at hv m y he
    exact beq_eq_false_iff_ne.mpr (hno m n hm hn)
theorem I_popAt {l : Addr} {ns : List Int} {i : Int} {t : Tok} {x : Int} {Q : Value → Shared → Prop} (h : St σ G L s) (hp : Put l (ils ns) (ils (ns.eraseIdx i.toNat)) L L') (hz : ns.length ≤ 1000) (h0 : 0 ≤ i) (hx : ns[i.toNat]? = some x)
    (k : ∀ t s', St σ G L' s' → Q (.int x t) s') : W prog w A (call (.builtin "list.pop") [.ref l, .int i t]) Q s := by
  obtain ⟨F, R, rfl, rfl⟩ := hp.split
  obtain ⟨vs, hv, h'⟩ := h.openI
  obtain ⟨u, hu⟩ := hv.get _ _ hx
  exact T_popAt h' (put_mid F) (by rw [hv.length]; exact hz) h0 hu (fun s' hs => k u s' (hs.shut fun o ho => ⟨_, intsAre_erase hv _, ho⟩))
theorem I_iter {l : Addr} {ns : List Int} {Q : Value → Shared → Prop} (h : St σ G L s) (hl : (l, ils ns) ∈ L) (k : ∀ it s', St σ G ((it, lit l 0) :: L) s' → Q (.ref it) s') : W prog w A (pyIter (.ref l)) Q s := by
  obtain ⟨F, R, rfl⟩ := has_split hl
  obtain ⟨vs, hv, h'⟩ := h.openI
  exact T_iterList h' (List.mem_append_right _ (.head _)) (fun it s' hs => k it s' (hs.shut (F := (it, lit l 0) :: F) fun o ho => ⟨vs, hv, ho⟩))

theorem Src.ints (hA : A.handled = none) (it l : Addr) (ns : List Int) (x : Str) (p : Pos) :
    Src prog w A σ (fun _ => G) (.ref it) (.Name x p) ns.length [(l, ils ns)] (fun i => [(it, lit l i), (l, ils ns)]) (fun i v W => ∃ n t, ns[i]? = some n ∧ v = .int n t ∧ W = []) where
  next := fun {i L s K} hi h k => by
    obtain ⟨vs, hv, h'⟩ := h.openI (F := [(it, lit l i)]) (R := L)
    refine (Src.list hA it l vs x p).next (L := L) (by rw [hv.length]; exact hi) h' (fun v W s' hV hS => ?_)
    obtain ⟨hV, rfl⟩ := hV
    obtain ⟨n, t, rfl, hn⟩ := IntsAre.at hv i v hV
    exact k _ [] s' ⟨n, t, hn, rfl, rfl⟩ (hS.shut (F := [(it, lit l (i + 1))]) fun o ho => ⟨vs, hv, ho⟩)
  stop := fun {L s K} h k => by
    obtain ⟨vs, hv, h'⟩ := h.openI (F := [(it, lit l ns.length)]) (R := L)
    rw [← hv.length] at h'
    exact (Src.list hA it l vs x p).stop (L := L) h' (fun s' hS => k s' (hS.shut (F := []) fun o ho => ⟨vs, hv, ho⟩))
theorem Src.enumInts (hA : A.handled = none) (e it l : Addr) (ns : List Int) (elts : List Expr) (x1 : Nat) (p : Pos) :
    Src prog w A σ (fun _ => G) (.ref e) (.Tuple elts x1 p) ns.length [(l, ils ns)] (fun i => [(e, enm it i), (it, lit l i), (l, ils ns)])
      (fun i v W => ∃ n T t u, ns[i]? = some n ∧ v = .ref T ∧ W = [(T, tup [.int i t, .int n u])]) where
  next := fun {i L s K} hi h k => by
    obtain ⟨vs, hv, h'⟩ := h.openI (F := [(e, enm it i), (it, lit l i)]) (R := L)
    refine (Src.enum hA e it l vs elts x1 p).next (L := L) (by rw [hv.length]; exact hi) h' (fun v W s' hV hS => ?_)
    obtain ⟨x, T, t, hx, rfl, rfl⟩ := hV
    obtain ⟨n, u, rfl, hn⟩ := IntsAre.at hv i x hx
    exact k _ _ s' ⟨n, T, t, u, hn, rfl, rfl⟩ (hS.shut (F := [(e, enm it ((i + 1 : Nat) : Int)), (it, lit l (i + 1))]) fun o ho => ⟨vs, hv, ho⟩)
  stop := fun {L s K} h k => by
    obtain ⟨vs, hv, h'⟩ := h.openI (F := [(e, enm it ns.length), (it, lit l ns.length)]) (R := L)
    rw [← hv.length] at h'
    exact (Src.enum hA e it l vs elts x1 p).stop (L := L) h' (fun s' hS => k s' (hS.shut (F := []) fun o ho => ⟨vs, hv, ho⟩))
end
end Mine

namespace Mine
open PySem PySem.W PySem.Calls PyProof.Rows

def seg (as : List Addr) (rs : List (List Int)) : List Cell := List.zipWith (fun a r => (a, ils r)) as rs
theorem mem_seg {as : List Addr} {rs : List (List Int)} {k : Nat} {a : Addr} {r : List Int} (ha : as[k]? = some a) (hr : rs[k]? = some r) : (a, ils r) ∈ seg as rs := by
  refine List.mem_of_getElem? (i := k) ?_
  simp [seg, List.getElem?_zipWith, ha, hr]
theorem put_skip {a : Addr} {P P' : Pr} {Y Y' : List Cell} (h : Put a P P' Y Y') : ∀ X : List Cell, Put a P P' (X ++ Y) (X ++ Y')
  | [] => h
  | _ :: X => .there (put_skip h X)
theorem put_more {a : Addr} {P P' : Pr} {X X' : List Cell} (h : Put a P P' X X') (Y : List Cell) : Put a P P' (X ++ Y) (X' ++ Y) := by
  induction h with
  | here => exact .here
  | there _ ih => exact .there ih
theorem put_seg : ∀ {as : List Addr} {rs : List (List Int)} {k : Nat} {a : Addr} {r : List Int} (r' : List Int), as[k]? = some a → rs[k]? = some r → Put a (ils r) (ils r') (seg as rs) (seg as (rs.set k r'))
  | [], _, _, _, _, _, ha, _ => by simp at ha
  | _ :: _, [], _, _, _, _, _, hr => by simp at hr
  | a :: as, r :: rs, 0, _, _, r', ha, hr => by
    simp only [List.getElem?_cons_zero, Option.some.injEq] at ha hr
    subst ha; subst hr; exact .here
  | a :: as, r :: rs, k + 1, _, _, r', ha, hr => .there (put_seg (as := as) (rs := rs) r' (by simpa using ha) (by simpa using hr))
theorem seg_snoc {as : List Addr} {rs : List (List Int)} (h : as.length = rs.length) (a : Addr) (r : List Int) : seg (as ++ [a]) (rs ++ [r]) = seg as rs ++ [(a, ils r)] := by
  unfold seg; rw [List.zipWith_append h]; rfl

section
variable {prog : Program} {w : World} {A : Around} {σ s : Shared} {G : Array GenState → Prop} {L L' : List Cell} {env : Env}

theorem T_assignSwap {targets : List Expr} {value : Expr} {pos : Pos} {Q : Flow → Shared → Prop} (names : List Str)
    (k : W prog w A (eval value env) (fun v s₁ => W prog w A (unpackItems v names.length none) (fun items s₂ => W prog w A (assignInOrder (names.reverse.map fun n => bindName env n) items.reverse) (fun _ => Q .next) s₂) s₁) s)
    (hw : swappedStores targets value env = pure (some names) := by rfl) (hs : swapsWithSole targets value pos.line env = pure false := by rfl) :
    W prog w A (exec (.Assign targets value pos) env) Q s := by
  rw [exec_Assign_arm, hs]
  refine wpAny_bind (wpAny_standAt (wpAny_bind (wpAny_pure ?_)))
  simp only [Bool.false_eq_true, if_false]
  refine wpAny_bind (W.mono k (fun v s₁ h₁ => ?_))
  rw [hw]
  exact wpAny_bind (wpAny_pure (wpAny_bind (wpAny_rule (wpAny_bind (W.mono h₁ (fun items s₂ h₂ => wpAny_bind (W.mono h₂ (fun _ s₃ h₃ => wpAny_pure h₃))))))))
theorem T_unpackItems {t : Addr} {vs : List Value} {n : Nat} {Q : List Value → Shared → Prop} (hA : A.handled = none) (h : St σ G L s) (k : ∀ s', St σ G L s' → Q vs s') (ht : (t, tup vs) ∈ L := by repeat (first | exact List.Mem.head _ | apply List.Mem.tail)) (hn : n = vs.length := by rfl) :
    W prog w A (unpackItems (.ref t) n none) Q s := by
  subst hn
  have := wpAny_unpackItems_tuple (prog := prog) (w := w) (E := fun _ _ => False) (Q := Q) hA (h.isTup ht) (fun h' hx => k _ (h.keeps (t := s.toks) (fun b o e => hx b o (Nat.ne_of_lt (Heap.lt_size e)) e)))
  simpa using this
theorem T_order {t : Value → Sem Unit} {ts : List (Value → Sem Unit)} {x : Value} {xs : List Value} {Q : Unit → Shared → Prop} (k : W prog w A (t x) (fun _ s₁ => W prog w A (assignInOrder ts xs) Q s₁) s) : W prog w A (assignInOrder (t :: ts) (x :: xs)) Q s := by
  unfold assignInOrder
  exact wpAny_bind (wpAny_holding k)
theorem T_order0 {xs : List Value} {Q : Unit → Shared → Prop} (k : Q () s) : W prog w A (assignInOrder [] xs) Q s := wpAny_pure k
theorem T_bind {x : Str} {v : Value} {Q : Unit → Shared → Prop} (k : W prog w A (storeName env x v) Q s) : W prog w A (bindName env x v) Q s := wpAny_bindName k
theorem T_assignN {x : Str} {p : Pos} {v : Value} {Q : Unit → Shared → Prop} (k : W prog w A (storeName env x v) Q s) : W prog w A (assign (.Name x p) env v) Q s := wpAny_bind (wpAny_standAt (wpAny_bindName k))
theorem T_assignTuple {elts : List Expr} {x1 : Nat} {pos : Pos} {t : Addr} {vs : List Value} {Q : Unit → Shared → Prop} (hA : A.handled = none) (h : St σ G L s)
    (k : ∀ s', St σ G L s' → W prog w A (assignInOrder ((assignEach elts env).map (·.2)) vs) Q s')
    (ht : (t, tup vs) ∈ L := by repeat (first | exact List.Mem.head _ | apply List.Mem.tail)) (hn : (assignEach elts env).length = vs.length := by rfl) (hstar : (assignEach elts env).findIdx? (·.1) = none := by rfl) :
    W prog w A (assign (.Tuple elts x1 pos) env (.ref t)) Q s :=
  wpAny_assign_Tuple hA (h.isTup ht) (by simpa using hn) hstar (fun h' hx => k _ (h.keeps (t := s.toks) (fun b o e => hx b o (Nat.ne_of_lt (Heap.lt_size e)) e)))
theorem T_assignSub {o i : Expr} {pos : Pos} {v : Value} {Q : Unit → Shared → Prop} (k : W prog w A (eval o env) (fun ov s₁ => W prog w A (eval i env) (fun iv s₂ => W prog w A (setItem ov iv v) (fun _ s₃ => Q () s₃) s₂) s₁) s) :
    W prog w A (assign (.Subscript o i pos) env v) Q s := by
  rw [arm_assign_Subscript]
  refine wpAny_bind (wpAny_holding (W.mono k (fun ov s₁ h₁ => ?_)))
  refine wpAny_bind (wpAny_holding (W.mono h₁ (fun iv s₂ h₂ => ?_)))
  refine wpAny_bind (wpAny_standAt (wpAny_bind (wpAny_holding (W.mono h₂ (fun _ s₃ h₃ => ?_)))))
  exact wpAny_release h₃
theorem T_assignOne {t : Value → Sem Unit} {v : Value} {Q : Unit → Shared → Prop} (k : W prog w A (t v) Q s) : W prog w A (assignAll v [t]) Q s := k

-- the same rules, what they look up sought in the ledger
theorem t_name {x : Str} {pos : Pos} {l : List (Str × Value)} {v : Value} {Q : Value → Shared → Prop} (h : St σ G L s) (k : Q v s) (hf : (env.locals, fr l) ∈ L := by repeat (first | exact List.Mem.head _ | apply List.Mem.tail)) (hv : (x, v) ∈ l := by repeat (first | exact List.Mem.head _ | apply List.Mem.tail))
    (hk : env.scope.kind = .function := by rfl) (hl : env.kindOf x = some .local := by rfl) (hd : (x == ("__debug__" : Str)) = false := by decide) : W prog w A (eval (.Name x pos) env) Q s := T_name h hf hv k hk hl hd
theorem t_cell {x : Str} {pos : Pos} {c : Addr} {v : Value} {Q : Value → Shared → Prop} (h : St σ G L s) (k : Q v s) (hc : env.cells.lookup x = some c := by rfl) (hf : (c, cel (some v)) ∈ L := by repeat (first | exact List.Mem.head _ | apply List.Mem.tail))
    (hk : env.scope.kind = .function := by rfl) (hl : env.kindOf x = some .cell := by rfl) (hd : (x == ("__debug__" : Str)) = false := by decide) : W prog w A (eval (.Name x pos) env) Q s := T_nameCell h hc hf k hk hl hd
theorem t_free {x : Str} {pos : Pos} {c : Addr} {v : Value} {Q : Value → Shared → Prop} (h : St σ G L s) (k : Q v s) (hc : env.cells.lookup x = some c := by rfl) (hf : (c, cel (some v)) ∈ L := by repeat (first | exact List.Mem.head _ | apply List.Mem.tail))
    (hk : env.scope.kind = .function := by rfl) (hl : env.kindOf x = some .free := by rfl) (hd : (x == ("__debug__" : Str)) = false := by decide) (hn : (x == ("__classdict__" : Str)) = false := by decide) : W prog w A (eval (.Name x pos) env) Q s := T_nameFree h hc hf k hk hl hd hn
theorem t_store {x : Str} {l l' : List (Str × Value)} {v : Value} {Q : Unit → Shared → Prop} (h : St σ G L s) (k : ∀ s', St σ G L' s' → Q () s') (hp : Put env.locals (fr l) (fr ((x, v) :: l')) L L' := by repeat (first | exact Put.here | apply Put.there)) (hd : Del x l l' := by repeat (first | exact Del.nil | apply Del.drop | (apply Del.keep; decide)))
    (hl : env.kindOf x = some .local := by rfl) (hc : (env.scope.kind == .class || (env.scope.kind == .module && env.locals != env.globals)) = false := by rfl) : W prog w A (storeName env x v) Q s := T_storeName h hd hp k hl hc
theorem t_storeCell {x : Str} {c : Addr} {v₀ : Option Value} {v : Value} {Q : Unit → Shared → Prop} (h : St σ G L s) (k : ∀ s', St σ G L' s' → Q () s') (hc : env.cells.lookup x = some c := by rfl) (hp : Put c (cel v₀) (cel (some v)) L L' := by repeat (first | exact Put.here | apply Put.there))
    (hk : env.scope.kind = .function := by rfl) (hl : env.kindOf x = some .cell := by rfl) : W prog w A (storeName env x v) Q s := T_storeCell h hc hp k hk hl
theorem t_item {value slice : Expr} {l : Addr} {vs : List Value} {i : Int} {t : Tok} {x : Value} {Q : Value → Shared → Prop} (h : St σ G L s) (h0 : 0 ≤ i) (hx : vs[i.toNat]? = some x) (k : Q x s) (hl : (l, lst vs) ∈ L := by repeat (first | exact List.Mem.head _ | apply List.Mem.tail)) (hz : vs.length ≤ 1000 := by first | omega | (simp only [List.length_append, List.length_cons, List.length_nil, List.length_map, List.length_set]; omega))
    (hs : subscripted slice false (.ref l) (.int i t) = operate [.ref l, .int i t] (getItem (.ref l) (.int i t)) := by with_unfolding_all rfl) : W prog w A (subscriptTail value slice (.ref l) (.int i t)) Q s := T_item h hl h0 hx hz k hs
theorem t_len {l : Addr} {vs : List Value} {Q : Value → Shared → Prop} (h : St σ G L s) (k : ∀ t s', St σ G L s' → Q (.int vs.length t) s') (hl : (l, lst vs) ∈ L := by repeat (first | exact List.Mem.head _ | apply List.Mem.tail)) (hz : vs.length ≤ 1000 := by first | omega | (simp only [List.length_append, List.length_cons, List.length_nil, List.length_map, List.length_set]; omega)) : W prog w A (call (.builtin "len") [.ref l]) Q s := T_len h hl hz k
theorem t_getAppend {l : Addr} {vs : List Value} {pl : Sem Bool} {Q : Value × List Value → Shared → Prop} (h : St σ G L s) (k : Q (.builtin "list.append", [.ref l]) s) (hl : (l, lst vs) ∈ L := by repeat (first | exact List.Mem.head _ | apply List.Mem.tail)) : W prog w A (getMethod (.ref l) "append" pl) Q s := T_getAppend h hl k
theorem t_append {l : Addr} {vs : List Value} {v : Value} {Q : Value → Shared → Prop} (h : St σ G L s) (k : ∀ s', St σ G L' s' → Q .none s') (hp : Put l (lst vs) (lst (vs ++ [v])) L L' := by repeat (first | exact Put.here | apply Put.there)) (hz : vs.length ≤ 1000 := by first | omega | (simp only [List.length_append, List.length_cons, List.length_nil, List.length_map, List.length_set]; omega)) : W prog w A (call (.builtin "list.append") [.ref l, v]) Q s := T_append h hp hz k
theorem t_iter {l : Addr} {vs : List Value} {Q : Value → Shared → Prop} (h : St σ G L s) (k : ∀ it s', St σ G ((it, lit l 0) :: L) s' → Q (.ref it) s') (hl : (l, lst vs) ∈ L := by repeat (first | exact List.Mem.head _ | apply List.Mem.tail)) : W prog w A (pyIter (.ref l)) Q s := T_iterList h hl k
theorem t_truthy {a : Addr} {vs : List Value} {Q : Bool → Shared → Prop} (h : St σ G L s) (k : ∀ s', St σ G L s' → Q (!vs.isEmpty) s') (hl : (a, lst vs) ∈ L := by repeat (first | exact List.Mem.head _ | apply List.Mem.tail)) (hz : vs.length ≤ 1000 := by first | omega | (simp only [List.length_append, List.length_cons, List.length_nil, List.length_map, List.length_set]; omega)) : W prog w A (truthy (.ref a)) Q s := T_truthyList h hl hz k
theorem i_item {value slice : Expr} {l : Addr} {ns : List Int} {i : Int} {t : Tok} {x : Int} {Q : Value → Shared → Prop} (h : St σ G L s) (h0 : 0 ≤ i) (hx : ns[i.toNat]? = some x) (k : ∀ t, Q (.int x t) s) (hl : (l, ils ns) ∈ L := by repeat (first | exact List.Mem.head _ | apply List.Mem.tail)) (hz : ns.length ≤ 1000 := by first | omega | (simp only [List.length_append, List.length_cons, List.length_nil, List.length_map, List.length_set]; omega))
    (hs : subscripted slice false (.ref l) (.int i t) = operate [.ref l, .int i t] (getItem (.ref l) (.int i t)) := by with_unfolding_all rfl) : W prog w A (subscriptTail value slice (.ref l) (.int i t)) Q s := I_item h hl h0 hx hz k hs
theorem i_len {l : Addr} {ns : List Int} {Q : Value → Shared → Prop} (h : St σ G L s) (k : ∀ t s', St σ G L s' → Q (.int ns.length t) s') (hl : (l, ils ns) ∈ L := by repeat (first | exact List.Mem.head _ | apply List.Mem.tail)) (hz : ns.length ≤ 1000 := by first | omega | (simp only [List.length_append, List.length_cons, List.length_nil, List.length_map, List.length_set]; omega)) : W prog w A (call (.builtin "len") [.ref l]) Q s := I_len h hl hz k
theorem i_truthy {a : Addr} {ns : List Int} {Q : Bool → Shared → Prop} (h : St σ G L s) (k : ∀ s', St σ G L s' → Q (!ns.isEmpty) s') (hl : (a, ils ns) ∈ L := by repeat (first | exact List.Mem.head _ | apply List.Mem.tail)) (hz : ns.length ≤ 1000 := by first | omega | (simp only [List.length_append, List.length_cons, List.length_nil, List.length_map, List.length_set]; omega)) : W prog w A (truthy (.ref a)) Q s := I_truthy h hl hz k
theorem i_getAppend {l : Addr} {ns : List Int} {pl : Sem Bool} {Q : Value × List Value → Shared → Prop} (h : St σ G L s) (k : Q (.builtin "list.append", [.ref l]) s) (hl : (l, ils ns) ∈ L := by repeat (first | exact List.Mem.head _ | apply List.Mem.tail)) : W prog w A (getMethod (.ref l) "append" pl) Q s := I_getAppend h hl k
theorem i_getIndex {l : Addr} {ns : List Int} {pl : Sem Bool} {Q : Value × List Value → Shared → Prop} (h : St σ G L s) (k : Q (.builtin "list.index", [.ref l]) s) (hl : (l, ils ns) ∈ L := by repeat (first | exact List.Mem.head _ | apply List.Mem.tail)) : W prog w A (getMethod (.ref l) "index" pl) Q s := I_getIndex h hl k
theorem i_getPop {l : Addr} {ns : List Int} {pl : Sem Bool} {Q : Value × List Value → Shared → Prop} (h : St σ G L s) (k : Q (.builtin "list.pop", [.ref l]) s) (hl : (l, ils ns) ∈ L := by repeat (first | exact List.Mem.head _ | apply List.Mem.tail)) : W prog w A (getMethod (.ref l) "pop" pl) Q s := I_getPop h hl k
theorem i_append {l : Addr} {ns : List Int} {x : Int} {t : Tok} {Q : Value → Shared → Prop} (h : St σ G L s) (k : ∀ s', St σ G L' s' → Q .none s') (hp : Put l (ils ns) (ils (ns ++ [x])) L L' := by repeat (first | exact Put.here | apply Put.there)) (hz : ns.length ≤ 1000 := by first | omega | (simp only [List.length_append, List.length_cons, List.length_nil, List.length_map, List.length_set]; omega)) : W prog w A (call (.builtin "list.append") [.ref l, .int x t]) Q s := I_append h hp hz k
theorem i_setItem {l : Addr} {ns : List Int} {i : Int} {t : Tok} {x : Int} {u : Tok} {Q : Unit → Shared → Prop} (h : St σ G L s) (h0 : 0 ≤ i) (hi : i < ns.length) (k : ∀ s', St σ G L' s' → Q () s')
    (hp : Put l (ils ns) (ils (ns.set i.toNat x)) L L' := by repeat (first | exact Put.here | apply Put.there)) (hz : ns.length ≤ 1000 := by first | omega | (simp only [List.length_append, List.length_cons, List.length_nil, List.length_map, List.length_set]; omega)) : W prog w A (setItem (.ref l) (.int i t) (.int x u)) Q s := I_setItem h hp h0 hi hz k
theorem i_index {l : Addr} {ns : List Int} {x : Int} {t : Tok} {j : Nat} {Q : Value → Shared → Prop} (h : St σ G L s) (hj : ns[j]? = some x) (hno : ∀ m y, m < j → ns[m]? = some y → y ≠ x) (k : ∀ t s', St σ G L s' → Q (.int j t) s')
    (hl : (l, ils ns) ∈ L := by repeat (first | exact List.Mem.head _ | apply List.Mem.tail)) (hz : ns.length ≤ 1000 := by first | omega | (simp only [List.length_append, List.length_cons, List.length_nil, List.length_map, List.length_set]; omega)) : W prog w A (call (.builtin "list.index") [.ref l, .int x t]) Q s := I_index h hl hz hj hno k
theorem i_popAt {l : Addr} {ns : List Int} {i : Int} {t : Tok} {x : Int} {Q : Value → Shared → Prop} (h : St σ G L s) (h0 : 0 ≤ i) (hx : ns[i.toNat]? = some x) (k : ∀ t s', St σ G L' s' → Q (.int x t) s')
    (hp : Put l (ils ns) (ils (ns.eraseIdx i.toNat)) L L' := by repeat (first | exact Put.here | apply Put.there)) (hz : ns.length ≤ 1000 := by first | omega | (simp only [List.length_append, List.length_cons, List.length_nil, List.length_map, List.length_set]; omega)) : W prog w A (call (.builtin "list.pop") [.ref l, .int i t]) Q s := I_popAt h hp hz h0 hx k
theorem i_iter {l : Addr} {ns : List Int} {Q : Value → Shared → Prop} (h : St σ G L s) (k : ∀ it s', St σ G ((it, lit l 0) :: L) s' → Q (.ref it) s') (hl : (l, ils ns) ∈ L := by repeat (first | exact List.Mem.head _ | apply List.Mem.tail)) : W prog w A (pyIter (.ref l)) Q s := I_iter h hl k
end
end Mine

namespace Mine
open PySem PySem.W PySem.Calls PyProof.Rows

section
variable {prog : Program} {w : World} {A : Around} {σ s : Shared} {G : Array GenState → Prop} {L L' : List Cell} {env : Env}

theorem St.growAll {W : List Cell} (h : St σ G L s) {h' : Heap} {t : Nat} (hk : ∀ b o, s.heap.get? b = some o → h'.get? b = some o)
    (hW : ∀ p ∈ W, s.heap.objs.size ≤ p.1 ∧ ∃ o, h'.get? p.1 = some o ∧ p.2 o) (hn : (W.map Prod.fst).Nodup) : St σ G (W ++ L) { s with heap := h', toks := t } := by
  have h1 := h.keeps (t := t) hk
  refine ⟨h1.gens, h1.drawn, h1.os, h1.keep, fun p hp => ?_, ?_, fun p hp => ?_⟩
  · rcases List.mem_append.mp hp with hp | hp
    · exact (hW p hp).2
    · exact h1.live p hp
  · rw [List.map_append, List.nodup_append]
    refine ⟨hn, h.nd, fun x hx y hy e => ?_⟩
    obtain ⟨p, hp, rfl⟩ := List.mem_map.mp hx
    obtain ⟨q, hq, rfl⟩ := List.mem_map.mp hy
    exact Nat.lt_irrefl _ (Nat.lt_of_lt_of_le (h.lt hq) (e ▸ (hW p hp).1))
  · rcases List.mem_append.mp hp with hp | hp
    · exact h.fresh (hW p hp).1
    · exact h.off p hp

theorem Src.range0 (hA : A.handled = none) (it : Addr) (n : Nat) (x : Str) (p : Pos) :
    Src prog w A σ (fun _ => G) (.ref it) (.Name x p) n [] (fun i => [(it, rit (0 + (i : Int)) ((n : Int) - i) 1)]) (fun i v W => (∃ t, v = .int (i : Int) t) ∧ W = []) where
  next := fun {i L s K} hi h k => (Src.range hA it 0 n x p).next hi h (fun v W s' hV hS => by
    obtain ⟨⟨t, rfl⟩, rfl⟩ := hV
    have e : (0 : Int) + (i : Int) = i := by omega
    exact k _ _ s' ⟨⟨t, by rw [e]⟩, rfl⟩ hS)
  stop := (Src.range hA it 0 n x p).stop

theorem St.frame (F : List Cell) {R : List Cell} {a : Addr} {l : List (Str × Value)} (l' : List (Str × Value)) (h : St σ G (F ++ (a, fr l) :: R) s) (hl : ∀ p ∈ l', p ∈ l := by simp) : St σ G (F ++ (a, fr l') :: R) s :=
  h.shut fun o ho => fr_sub hl ho
theorem perm_mid2 {α : Type} (a b : α) (E S1 S2 R : List α) : (b :: a :: (E ++ (S1 ++ (S2 ++ R)))).Perm (E ++ ((S1 ++ [a]) ++ ((S2 ++ [b]) ++ R))) := by
  have e : E ++ ((S1 ++ [a]) ++ ((S2 ++ [b]) ++ R)) = (E ++ S1) ++ a :: (S2 ++ b :: R) := by simp
  rw [e]
  refine List.Perm.symm (List.perm_middle.trans ?_)
  have e2 : (E ++ S1) ++ (S2 ++ b :: R) = (E ++ (S1 ++ S2)) ++ b :: R := by simp
  rw [e2]
  refine (List.Perm.cons a List.perm_middle).trans ?_
  refine (List.Perm.swap b a _).trans ?_
  simp
theorem perm_mid1 {α : Type} {c : α} {L : List α} (h : c ∈ L) : ∃ L', L.Perm (c :: L') := by
  obtain ⟨F, R, rfl⟩ := List.append_of_mem h
  exact ⟨F ++ R, List.perm_middle⟩

def rngP (a b : Int) : Pr := fun o => ∃ t u v, o = { cls := .type "range", dict := none, data := .fields #[.int a t, .int b u, .int 1 v], slots := #[] }
theorem T_range1 {n : Int} {t : Tok} {Q : Value → Shared → Prop} (h : St σ G L s) (k : ∀ r s', St σ G ((r, rngP 0 n) :: L) s' → Q (.ref r) s') : W prog w A (call (.type "range") [.int n t]) Q s :=
  call_range_1 (k _ _ (h.push (P := rngP 0 n) rfl ⟨_, _, _, rfl⟩))
theorem T_iterRange {r : Addr} {a b : Int} {n : Nat} {Q : Value → Shared → Prop} (h : St σ G L s) (hb : b - a = n) (ha : a.natAbs ≤ 1000) (hn : n ≤ 1000) (k : ∀ it s', St σ G ((it, rit a n 1) :: L) s' → Q (.ref it) s') (hr : (r, rngP a b) ∈ L := by repeat (first | exact List.Mem.head _ | apply List.Mem.tail)) :
    W prog w A (pyIter (.ref r)) Q s := by
  obtain ⟨o, ho, t, u, v, rfl⟩ := h.get hr
  refine wpAny_pyIter_range (a := a) (b := b) (c := 1) ho (small_one (by omega) (by omega) (by omega) (by omega)) ?_
  have e : Builtin.Range.rangeSize a b 1 = n := by rw [rangeSize_one]; split <;> omega
  rw [e]
  exact k _ _ (h.push (t := s.toks) rfl rfl)
theorem T_iterRange0 {r : Addr} {n : Nat} {Q : Value → Shared → Prop} (h : St σ G L s) (k : ∀ it s', St σ G ((it, rit (0 + ((0 : Nat) : Int)) ((n : Int) - ((0 : Nat) : Int)) 1) :: L) s' → Q (.ref it) s') (hr : (r, rngP 0 (n : Int)) ∈ L := by repeat (first | exact List.Mem.head _ | apply List.Mem.tail)) (hn : n ≤ 1000 := by omega) :
    W prog w A (pyIter (.ref r)) Q s := by
  refine T_iterRange h (n := n) (by omega) (by decide) hn (fun it s' h' => k it s' ?_) hr
  have e1 : (0 : Int) + ((0 : Nat) : Int) = 0 := by omega
  have e2 : (n : Int) - ((0 : Nat) : Int) = n := by omega
  rw [e1, e2]; exact h'
theorem T_iterRit {it : Addr} {x left : Int} {Q : Value → Shared → Prop} (h : St σ G L s) (k : Q (.ref it) s) (hr : (it, rit x left 1) ∈ L := by repeat (first | exact List.Mem.head _ | apply List.Mem.tail)) : W prog w A (pyIter (.ref it)) Q s := by
  obtain ⟨o, ho, rfl⟩ := h.get hr
  exact wpAny_pyIter_rangeiter (x := x) (left := left) (step := 1) ho k
theorem T_iterEnm {e it : Addr} {i : Int} {Q : Value → Shared → Prop} (h : St σ G L s) (k : Q (.ref e) s) (hr : (e, enm it i) ∈ L := by repeat (first | exact List.Mem.head _ | apply List.Mem.tail)) : W prog w A (pyIter (.ref e)) Q s := by
  obtain ⟨o, ho, old, rfl⟩ := h.get hr
  exact wpAny_pyIter_enum (it := it) (i := i) (old := old) ho k
theorem t_iterLit {it l : Addr} {i : Nat} {Q : Value → Shared → Prop} (h : St σ G L s) (k : Q (.ref it) s) (hl : (it, lit l i) ∈ L := by repeat (first | exact List.Mem.head _ | apply List.Mem.tail)) : W prog w A (pyIter (.ref it)) Q s := T_iterLit h hl k
theorem I_enumerate {l : Addr} {ns : List Int} {Q : Value → Shared → Prop} (h : St σ G L s) (k : ∀ e it s', St σ G ((e, enm it 0) :: (it, lit l 0) :: L) s' → Q (.ref e) s') (hl : (l, ils ns) ∈ L := by repeat (first | exact List.Mem.head _ | apply List.Mem.tail)) :
    W prog w A (call (.type "enumerate") [.ref l]) Q s := by
  have hL : ∃ vs : List Value, s.heap.IsList l vs.toArray := by
    obtain ⟨o, ho, vs, hv, n, rfl⟩ := h.get hl
    exact ⟨vs, _, ho, rfl, n, rfl⟩
  obtain ⟨vs, hL⟩ := hL
  refine call_enumerate_list hL (fun h' he hi hs hk => k _ _ _ (h.growAll (W := [(s.heap.objs.size + 1, enm s.heap.objs.size 0), (s.heap.objs.size, lit l 0)]) (t := s.toks) hk ?_ ?_))
  · intro p hp
    simp only [List.mem_cons, List.not_mem_nil, or_false] at hp
    rcases hp with rfl | rfl
    · exact ⟨Nat.le_succ _, _, he, _, rfl⟩
    · refine ⟨Nat.le_refl _, ?_⟩
      obtain ⟨o, ho, e⟩ := hi
      exact ⟨o, ho, e⟩
  · simp
end
end Mine

namespace Mine
open PySem PySem.W PySem.Calls PyProof.Rows

def apart : List Str → Bool
  | [] => true
  | x :: r => !(r.contains x) && apart r
theorem apart_nodup : ∀ {l : List Str}, apart l = true → l.Nodup
  | [], _ => List.nodup_nil
  | x :: r, h => by
    unfold apart at h
    rw [Bool.and_eq_true, Bool.not_eq_true'] at h
    refine List.nodup_cons.mpr ⟨fun hm => ?_, apart_nodup h.2⟩
    have := h.1
    rw [List.contains_iff_mem.mpr hm] at this
    cases this
def Each {α : Type} (P : α → Prop) : List α → Prop
  | [] => True
  | x :: r => P x ∧ Each P r
theorem Each.mem {α : Type} {P : α → Prop} : ∀ {l : List α}, Each P l → ∀ x ∈ l, P x
  | _ :: _, h, _, .head _ => h.1
  | _ :: _, h, _, .tail _ m => Each.mem h.2 _ m

def retV : Flow → Value
  | .ret v => v
  | _ => .none

/-- a function that stands at a -/
structure Fn (σ : Shared) (a : Addr) (fd : FuncData) : Prop where
  obj : ∃ o, σ.heap.get? a = some o ∧ o.data = .func fd ∧ o.cls = .type "function"
  code : σ.heap.CodeRec fd.code fd.qualname

def CallF (prog : Program) (w : World) (A : Around) (σ : Shared) (a : Addr) (vals : List Value) (Q : Value → Shared → Prop) (s : Shared) : Prop :=
  (∀ o, σ.heap.get? a = some o → s.heap.get? a = some o) ∧ codeAny (model prog w) A (.call (.ref a) ⟨vals, []⟩) (fun r s' => match r with | .ok (.ret v) => Q v s' | .ok _ => False | .error _ => False) s
section
variable {prog : Program} {w : World} {A : Around} {σ s : Shared} {G : Array GenState → Prop} {L L' : List Cell} {env : Env}

theorem CallF.run {a : Addr} {vals : List Value} {Q : Value → Shared → Prop} (h : CallF prog w A σ a vals Q s) : W prog w A (call (.ref a) vals) Q s :=
  wpAny_call (codeAny_mono h.2 fun r s' z => by rcases r with e | (v | _ | _ | _) <;> exact z)

theorem T_withF {pos : Pos} {a : Addr} {fd : FuncData} {first : List Value} {e : Expr} {rest : List Expr} {Q : Value → Shared → Prop} (F : Fn σ a fd)
    (k : W prog w A (spliced (backTo pos (starEach (e :: rest) env))) (fun vs s₁ => CallF prog w A σ a (first ++ vs) Q s₁) s)
    (he : starEach (e :: rest) env = (false, eval e env) :: starEach rest env := by rfl) : W prog w A (callWith pos (.ref a) first (backTo pos (starEach (e :: rest) env)) []) Q s := by
  obtain ⟨o, ho, hd, _⟩ := F.obj
  rw [he] at k ⊢
  exact Calls.callWith_function (o := o) (fd := fd) (Calls.evalArgs_plain (wpAny_mono k (fun vs s₁ h₁ => ⟨⟨h₁.1 _ ho, hd⟩, CallF.run h₁⟩) fun _ _ x => x))
theorem T_withF0 {pos : Pos} {a : Addr} {fd : FuncData} {first : List Value} {Q : Value → Shared → Prop} (F : Fn σ a fd)
    (k : CallF prog w A σ a first Q s) : W prog w A (callWith pos (.ref a) first (backTo pos (starEach [] env)) []) Q s := by
  obtain ⟨o, ho, hd, _⟩ := F.obj
  show W prog w A (callWith pos (.ref a) first [] []) Q s
  exact Calls.callWith_function (o := o) (fd := fd) (PyProof.Rows.evalArgs_none ⟨⟨k.1 _ ho, hd⟩, by simpa using CallF.run k⟩)

theorem lookup_rev {binds : List (Str × Value)} (hn : (binds.map Prod.fst).Nodup) : ∀ p ∈ binds, binds.reverse.lookup p.1 = some p.2 := by
  have key : ∀ (l : List (Str × Value)), (l.map Prod.fst).Nodup → ∀ p ∈ l, l.lookup p.1 = some p.2 := by
    intro l
    induction l with
    | nil => intro _ p hp; cases hp
    | cons x r ih =>
      intro hn p hp
      rw [List.map_cons, List.nodup_cons] at hn
      obtain ⟨x1, x2⟩ := x
      rw [List.lookup_cons]
      rcases List.mem_cons.mp hp with rfl | hp
      · simp
      · have : p.1 ≠ x1 := fun e => hn.1 (e ▸ List.mem_map.mpr ⟨p, hp, rfl⟩)
        rw [beq_eq_false_iff_ne.mpr this]
        exact ih hn.2 p hp
  intro p hp
  refine key binds.reverse ?_ p (List.mem_reverse.mpr hp)
  rw [List.map_reverse]
  exact List.pairwise_reverse.mpr (hn.imp fun h => h.symm)

theorem T_callG {a : Addr} {fd : FuncData} {body : List Stmt} {vals : List Value} {Q : Value → Shared → Prop} (F : Fn σ a fd) (hlim : σ.heap.NoLimit) (hd : A.depth ≤ 900) (h : St σ G L s)
    (Bk : List (Str × Value) → Shared → Prop)
    (hb : ∀ (A' : Around) (Q' : List (Str × Value) → Shared → Prop), (∀ binds s', Bk binds s' → Q' binds s') → W prog w A' (bindArgs fd ⟨vals, []⟩) Q' s)
    (k : ∀ binds s₁, Bk binds s₁ → ∃ L₁, St σ G L₁ s₁ ∧ (∀ x ∈ binds, fd.scope.names.lookup x.1 = some .local) ∧ (binds.map Prod.fst).Nodup ∧
      ∀ Lf s₂, St σ G ((Lf, fr binds) :: L₁) s₂ → W prog w (A.deeper (callEnv fd Lf a)) (execs body (callEnv fd Lf a)) (fun f s'' => Q (retV f) s'') s₂)
    (hbody : fd.body = .stmts body := by rfl) (hcell : fd.scope.names.all (fun x => !(x.2 == .cell)) = true := by first | rfl | kernel_rfl)
    (hco : fd.scope.isCoroutine = false := by rfl) (hgen : fd.scope.isGenerator = false := by rfl) (hk : fd.scope.kind = .function := by rfl) :
    CallF prog w A σ a vals Q s := by
  refine ⟨fun o ho => h.keep _ _ ho, ?_⟩
  obtain ⟨o, ho, hdat, _⟩ := F.obj
  have hroom : A.depth < recursionLimit := Nat.lt_of_le_of_lt hd (by decide)
  refine codeAny_call_function hroom (h.keep _ _ ho) hdat hco hgen hbody (F.code.keeps h.keep) ?_
  refine (hb A.in1 _ (fun binds s₁ hB => ?_)).any
  obtain ⟨L₁, h1, hloc, hnd, hk'⟩ := k binds s₁ hB
  refine wpAny_newFunctionEnv (nocell_ok hcell) hloc (fun h₀ hns hsb => ⟨(hlim.keeps h1.keep).fresh _ hsb, codeAny_func ?_⟩) hk
  have h2 := h1.push (P := fun o => True) (o := { cls := .type "frame", data := .dict #[] }) (t := s₁.toks) rfl trivial
  have h3 := h2.same (P' := fr binds) (t := s₁.toks + binds.length) hsb (by
    obtain ⟨o, es, ep, ho, hd, hsk, hf⟩ := hns
    exact ⟨o, ho, es, ep, hd, hsk, fun p hp => (hf p.1).trans (lookup_rev hnd p hp)⟩)
  exact wpAny_mono (hk' _ _ h3) (fun f s'' q => by cases f <;> exact q) fun _ _ q => q.elim
theorem T_callP {a : Addr} {fd : FuncData} {body : List Stmt} {vals : List Value} (binds : List (Str × Value)) {Q : Value → Shared → Prop} (F : Fn σ a fd) (hlim : σ.heap.NoLimit) (hd : A.depth ≤ 900) (h : St σ G L s)
    (k : ∀ Lf s₂, St σ G ((Lf, fr binds) :: L) s₂ → W prog w (A.deeper (callEnv fd Lf a)) (execs body (callEnv fd Lf a)) (fun f s'' => Q (retV f) s'') s₂)
    (hb : bindArgs fd ⟨vals, []⟩ = pure binds := by rfl)
    (hloc : Each (fun x => fd.scope.names.lookup x.1 = some .local) binds := by repeat (first | exact trivial | refine And.intro (by rfl) ?_)) (hnd : apart (binds.map Prod.fst) = true := by first | rfl | kernel_rfl)
    (hbody : fd.body = .stmts body := by rfl) (hcell : fd.scope.names.all (fun x => !(x.2 == .cell)) = true := by first | rfl | kernel_rfl)
    (hco : fd.scope.isCoroutine = false := by rfl) (hgen : fd.scope.isGenerator = false := by rfl) (hk : fd.scope.kind = .function := by rfl) :
    CallF prog w A σ a vals Q s :=
  T_callG F hlim hd h (fun b s' => b = binds ∧ s' = s) (fun A' Q' q => by rw [hb]; exact wpAny_pure (q _ _ ⟨rfl, rfl⟩)) (fun b s₁ e => by
    obtain ⟨rfl, rfl⟩ := e
    exact ⟨L, h, hloc.mem, apart_nodup hnd, k⟩) hbody hcell hco hgen hk

/-- a function with variables that inner functions use -/
theorem T_callC {a : Addr} {fd : FuncData} {body : List Stmt} {vals : List Value} (binds lb : List (Str × Value)) (cs : Nat → List (Str × Addr)) (cm : Str → Option Value) {Q : Value → Shared → Prop} (F : Fn σ a fd) (hlim : σ.heap.NoLimit) (hd : A.depth ≤ 900) (h : St σ G L s)
    (k : ∀ Lf s₂, St σ G ((Lf, fr lb) :: ((cs (Lf + 1)).map (fun p => (p.2, cel (cm p.1))) ++ L)) s₂ → W prog w (A.deeper (callEnvC fd Lf a)) (execs body (callEnvC fd Lf a)) (fun f s'' => Q (retV f) s'') s₂)
    (hcs : ∀ n, cellsFrom n fd.scope.names [] = cs n := by intro _; rfl)
    (hb : bindArgs fd ⟨vals, []⟩ = pure binds := by rfl)
    (hlb : ∀ n, Each (fun p => bindL (callEnvC fd n a).kindOf binds (fun _ => none) p.1 = some p.2) lb := by intro n; repeat (first | exact trivial | refine And.intro (by rfl) ?_))
    (hcm : ∀ n, Each (fun p => (cs (n + 1)).lookup p.1 = some p.2 ∧ bindC (callEnvC fd n a).kindOf binds (fun _ => none) p.1 = cm p.1) (cs (n + 1)) := by intro n; repeat (first | exact trivial | refine And.intro ⟨by rfl, by rfl⟩ ?_))
    (hkind : ∀ n, Each (fun x => fd.scope.names.lookup x.1 = some .local ∨ (fd.scope.names.lookup x.1 = some .cell ∧ ((cs n).lookup x.1).isSome = true)) binds := by intro n; repeat (first | exact trivial | refine And.intro (Or.inl (by rfl)) ?_ | refine And.intro (Or.inr ⟨by rfl, by rfl⟩) ?_))
    (hclo : fd.closure = [] := by rfl)
    (hbody : fd.body = .stmts body := by rfl)
    (hco : fd.scope.isCoroutine = false := by rfl) (hgen : fd.scope.isGenerator = false := by rfl) (hk : fd.scope.kind = .function := by rfl) :
    CallF prog w A σ a vals Q s := by
  refine ⟨fun o ho => h.keep _ _ ho, ?_⟩
  obtain ⟨o, ho, hdat, _⟩ := F.obj
  have hroom : A.depth < recursionLimit := Nat.lt_of_le_of_lt hd (by decide)
  refine codeAny_call_cells hroom (h.keep _ _ ho) hdat (hlim.keeps h.keep) (F.code.keeps h.keep) hbody hb hclo (by
    intro x hx
    rw [hcs]
    exact (hkind _).mem x hx) (fun s₁ X => ?_) hco hgen hk
  have hcells : (callEnvC fd s.heap.objs.size a).cells = cs (s.heap.objs.size + 1) := hcs _
  have hlocals : (callEnvC fd s.heap.objs.size a).locals = s.heap.objs.size := rfl
  obtain ⟨h₁, tk, rfl⟩ := X.toInCall.same
  have h3 : St σ G (((s.heap.objs.size, fr lb) :: (cs (s.heap.objs.size + 1)).map (fun p => (p.2, cel (cm p.1)))) ++ L) { s with heap := h₁, toks := tk } := by
    refine h.growAll (fun b o e => X.toInCall.keep b o e) (fun p hp => ?_) ?_
    · rcases List.mem_cons.mp hp with rfl | hp
      · refine ⟨Nat.le_refl _, ?_⟩
        obtain ⟨o, es, ep, ho, hd, hsk, hf⟩ := X.toInCall.ns
        exact ⟨o, ho, es, ep, hd, hsk, fun p hp => (hf p.1).trans ((hlb _).mem p hp)⟩
      · obtain ⟨q, hq, rfl⟩ := List.mem_map.mp hp
        refine ⟨Nat.le_of_lt (X.above q.1 q.2 (by rw [hcells]; exact hq)), ?_⟩
        obtain ⟨o, ho, e⟩ := X.cell q.1 q.2 (by rw [hcells]; exact ((hcm _).mem q hq).1)
        exact ⟨o, ho, e.trans (by rw [((hcm _).mem q hq).2])⟩
    · rw [List.map_cons, List.nodup_cons]
      constructor
      · intro hm
        obtain ⟨p, hp, e⟩ := List.mem_map.mp hm
        obtain ⟨q, hq, rfl⟩ := List.mem_map.mp hp
        have := X.above q.1 q.2 (by rw [hcells]; exact hq)
        rw [hlocals] at this
        have e' : q.2 = s.heap.objs.size := e
        rw [e'] at this
        exact Nat.lt_irrefl _ this
      · rw [List.map_map]
        have hap := X.apart
        rw [hcells] at hap
        exact List.pairwise_map.mpr hap
  exact wpAny_mono (k _ _ h3) (fun f s'' q => by cases f <;> exact q) fun _ _ q => q.elim
end
end Mine

namespace Mine
open PySem PySem.W PySem.Calls PyProof.Rows Builtin Builtin.ObjectAttr

/-- an object of C whose attributes stand in the dict dx -/
def ins (C dx : Addr) : Pr := fun o => o = instObj C dx
/-- a dict of these attributes -/
def sd (prog : Program) (w : World) (l : List (Str × Value)) : Pr := fun o => (o.cls = .type "dict" ∧ o.dict = none) ∧ ∃ es ep, o.data = .dict es ep ∧ KeysOf (strKind prog w) es ∧ es.size ≤ l.length ∧ ∀ k, findBy (strKind prog w).is es k = l.lookup k

theorem isStrOf_eq (k : Str) (v : Value) : Value.isStrOf k v = v.isStr k := by
  cases v <;> first | rfl | (simp only [Value.isStrOf, Value.isStr]; done) | skip

section
variable {prog : Program} {w : World} {A : Around} {σ s : Shared} {G : Array GenState → Prop} {L L' : List Cell} {env : Env} {K : Frag}

theorem looks_clsVal {M : Model} {h : Heap} (X : K.In h) {x C : Addr} {ox : Obj} {od : Option Obj} {cd : ClassData} {name : Str} {a : Value} (I : InstAt h x ox C od) (hcd : clsIn K C = some cd) (ha : findIn K (.ref C) name = some (some a))
    (hg : Looks M h (specialOf a "__get__") none) (ho : ownOf cd od name = some none) (hcp : copiedNames.contains name = false) (hh : handedIn a = true) : Looks M h (find (.ref x) (.ref C) name) (.value a) := by
  have L2 : Looks M h (getOf (some a)) none := hg
  refine (looks_findIn X ha).andThen (L2.andThen (Looks.now.andThen ((looks_own X I hcd ho).andThen ?_)))
  have Gd : Looks M h (copiedAttributeGuard name (.ref x)) () := by
    unfold copiedAttributeGuard
    dsimp only
    split
    · rename_i q2
      have q2 : copiedNames.contains name = true := q2
      rw [hcp] at q2; cases q2
    · exact .now
  exact Gd.andThen (Looks.tag ((Looks.of_pure (handedOut_of hh)).andThen .now))

theorem dictType_noGet {M : Model} {h : Heap} : Looks M h (specialOf (.type "dict") "__get__") none := by
  have e : typeLookup (.type "type") "__get__" = pure none := by rw [typeLookup_type, builtinLookup_eq_fast]; kernel_rfl
  have e2 : typeOf (.type "dict") = pure (.type "type") := by kernel_rfl
  unfold specialOf
  rw [e2]
  exact Looks.now.andThen (Looks.of_pure e)

theorem get_found {x C : Addr} {ox : Obj} {od : Option Obj} {name : Str} {expr : Bool} {Q : Value → Shared → Prop} {v : Value} (X : K.In s.heap) (I : InstAt s.heap x ox C od) (hga : findIn K (.ref C) "__getattribute__" = some (some (.builtin "object.__getattribute__")))
    (hf : Looks (model prog w) s.heap (find (.ref x) (.ref C) name) (.value v)) (hh : handedIn v = true) (h : Q v { s with toks := s.toks + 1 }) : W prog w A (getAttr (.ref x) name expr) Q s := by
  refine get_open X I hga ?_
  obtain ⟨hh', g, d, t, os⟩ := s
  have L0 := I.type (M := model prog w)
  refine wpAny_bind (wpAny_pure (wpAny_bind (L0.at (wpAny_bind (hf.at ?_)))))
  refine wpAny_pure ?_
  show wpAny _ _ (handedOut v) _ _ _
  rw [handedOut_of hh]; exact wpAny_pure h

theorem sd_look {l : List (Str × Value)} {o : Obj} (h : sd prog w l o) (name : Str) : lookIn name o = some (l.lookup name) := by
  obtain ⟨_, es, ep, hd, hk, _, hf⟩ := h
  have hs : ∀ e ∈ es.toList, ∃ n t, e.key = .str n t := by
    intro e he
    obtain ⟨k, hk, _⟩ := hk e (by simpa using he)
    obtain ⟨t, ht⟩ := Value.isStrOf_shape hk
    exact ⟨k, t, ht⟩
  have hfind : es.toList.find? (·.key.isStr name) = es.toList.find? (fun e => (strKind prog w).is name e.key) := by
    congr 1
    funext e
    exact (isStrOf_eq name e.key).symm
  have hf' := hf name
  unfold findBy at hf'
  unfold lookIn
  rw [hd]
  dsimp only
  rw [hfind]
  have hb : (es.find? fun e => (strKind prog w).is name e.key) = es.toList.find? (fun e => (strKind prog w).is name e.key) := by rw [Array.find?_toList]
  rw [hb] at hf'
  cases q : es.toList.find? (fun e => (strKind prog w).is name e.key) with
  | some e => rw [q] at hf'; simp only [Option.map_some] at hf'; simp only; rw [← hf']
  | none =>
    rw [q] at hf'; simp only [Option.map_none] at hf'
    simp only
    rw [if_neg, ← hf']
    intro hany
    obtain ⟨e, he, h2⟩ := List.any_eq_true.mp hany
    obtain ⟨n, t, hk⟩ := hs e he
    simp [DictEntry.refKey, hk] at h2

theorem sd_ns {l : List (Str × Value)} {o : Obj} (h : sd prog w l o) : ∃ es ep, o.data = .dict es ep ∧ StrKeys es ∧ ∀ name, nsFind es name = l.lookup name := by
  obtain ⟨_, es, ep, hd, hk, _, hf⟩ := h
  refine ⟨es, ep, hd, ?_, ?_⟩
  · intro e he
    obtain ⟨k, hk, _⟩ := hk e he
    obtain ⟨t, ht⟩ := Value.isStrOf_shape hk
    exact ⟨k, t, ht⟩
  · intro name
    rw [← hf name]
    unfold nsFind findBy
    congr 2
    funext e
    exact (isStrOf_eq name e.key).symm

theorem St.inst {x C dx : Addr} {l : List (Str × Value)} (h : St σ G L s) (hx : (x, ins C dx) ∈ L) (hd : (dx, sd prog w l) ∈ L) : ∃ od, sd prog w l od ∧ s.heap.get? dx = some od ∧ InstAt s.heap x (instObj C dx) C (some od) := by
  obtain ⟨o, ho, rfl⟩ := h.get hx
  obtain ⟨od, hod, hs⟩ := h.get hd
  exact ⟨od, hs, hod, ho, rfl, rfl, hod⟩

theorem sd_put {l : List (Str × Value)} {od : Obj} (name : Str) (t : Tok) (v : Value) (h : sd prog w l od) (hz : l.length ≤ 50) : sd prog w ((name, v) :: l) (Obj.putName name (PyData.keyHash w.params name) (.str name t) v od) ∧
    (∃ es n, (Obj.putName name (PyData.keyHash w.params name) (.str name t) v od).data = .dict es n ∧ es.size ≤ 60) ∧ (Obj.putName name (PyData.keyHash w.params name) (.str name t) v od).isFreed = false := by
  obtain ⟨hex, es, ep, hd, hk, hsz, hf⟩ := h
  obtain ⟨c, d, dt, sl⟩ := od
  dsimp only at hd
  subst hd
  have hfun : (fun e : DictEntry => e.key.isStr name) = (fun e => (strKind prog w).is name e.key) := by
    funext e; exact (isStrOf_eq name e.key).symm
  rw [Obj.putName_eq]
  unfold Obj.putNameByArray
  dsimp only
  cases hi : es.findIdx? (fun e => e.key.isStr name) with
  | some i =>
    dsimp only
    refine ⟨⟨hex, _, ep, rfl, hk.modify _ _, by rw [Array.size_modify, List.length_cons]; omega, fun x => ?_⟩, ⟨_, ep, rfl, by rw [Array.size_modify]; omega⟩, rfl⟩
    rw [hfun] at hi
    rw [findBy_modify (strKind prog w).is (strKind prog w).inj es name x v i hi, hf, List.lookup_cons]
    by_cases hx : x = name
    · subst hx; simp
    · rw [if_neg hx, beq_eq_false_iff_ne.mpr hx]
  | none =>
    dsimp only
    rw [hfun] at hi
    refine ⟨⟨hex, _, ep + 1, rfl, ?_, by rw [Array.size_push, List.length_cons]; omega, fun x => ?_⟩, ⟨_, ep + 1, rfl, by rw [Array.size_push]; omega⟩, rfl⟩
    · exact hk.push (k := name) (by simp [PySem.strKind, Value.isStrOf]) v
    · rw [findBy_push (strKind prog w).is es name x _ _ v (KeyKind.is_eq_decide (by simp [PySem.strKind, Value.isStrOf])) hi, hf, List.lookup_cons]
      by_cases hx : x = name
      · subst hx; simp
      · rw [if_neg hx, beq_eq_false_iff_ne.mpr hx]

theorem T_setAttr {x C dx : Addr} {l : List (Str × Value)} {name : Str} {v : Value} {Q : Unit → Shared → Prop} (X : K.In σ.heap) (h : St σ G L s) (hx : (x, ins C dx) ∈ L) (hp : Put dx (sd prog w l) (sd prog w ((name, v) :: l)) L L') (hl : l.length ≤ 50)
    (hs : findIn K (.ref C) "__setattr__" = some (some (.builtin "object.__setattr__"))) (hpo : plainOver K C = true) (ht : takerIn K C name = some none) (hh : (clsIn K C).any (·.hasDict) = true)
    (k : ∀ s', St σ G L' s' → Q () s') : W prog w A (setAttr (.ref x) name v) Q s := by
  obtain ⟨od, hsd, hod, I⟩ := h.inst hx hp.mem
  have XK := X.keeps h.keep
  refine set_plain XK I hs ?_
  refine osa_open (s := { s with toks := s.toks + 1 }) XK I hpo ht fun b => ?_
  obtain ⟨cd, hc, hd'⟩ := any_some hh
  obtain ⟨h1, ⟨es', n', h2, h2'⟩, h3⟩ := sd_put name (s.toks + 1) v hsd hl
  have hupd := Heap.get?_update_self (Obj.putName name (PyData.keyHash w.params name) (.str name (s.toks + 1)) v) hod h3
  have hk := k _ (h.put (t := s.toks + 1 + 1) hp (Heap.SameBut.update ..) ⟨_, hupd, h1⟩)
  refine wpAny_bind (wpAny_pure (wpAny_bind (wpAny_bind (wpAny_loadPart I.at_ (wpAny_bind (Looks.here (s := { s with toks := s.toks + 1 }) (looks_clsIn XK hc) ?_))))))
  rw [hd']
  refine wpAny_pure (a := some dx) (wpAny_bind (wpAny_pure (wpAny_bind ?_)))
  unfold nsSet
  refine wpAny_bind (wpAny_bind (wpAny_askSetting (wpAny_pure (wpAny_bind (wpAny_mkText (wpAny_bind (wpAny_loadPart hod ?_)))))))
  obtain ⟨es, ep, hdat, hsk, _⟩ := sd_ns hsd
  rw [hdat]
  dsimp only
  have hany : es.any (·.refKey) = false := by
    rw [Array.any_eq_false']; intro e he; obtain ⟨n, t, h⟩ := hsk e he; simp [DictEntry.refKey, h]
  have c : (!es.any (·.key.isStr name) && es.any (·.refKey)) = false := by rw [hany, Bool.and_false]
  rw [aRefKeyMayBeTheName_at, c]
  refine wpAny_updatePart hod ?_
  refine wpAny_bind (wpAny_lookBehind hupd (by rw [h2]; exact pastItsLine_dict (by rw [sizeLine_eq]; omega)) ?_)
  exact wpAny_pure hk
end
end Mine

namespace Mine
open PySem PySem.W PySem.Calls PyProof.Rows Builtin Builtin.ObjectAttr

/-- what the class knows of a name: the attribute, its __get__, whether it takes stores -/
def clsFind (K : Frag) (C : Addr) (name : Str) : Option (Option Value × Option Value × Bool) := (clsIn K C).bind fun cd => if cd.hasDict then (findIn K (.ref C) name).bind fun attr =>
  (match attr with | some a => specialIn K a "__get__" | none => some none).bind fun get =>
  (match attr, get with | some a, some _ => takesIn K a | _, _ => some false).bind fun data => some (attr, get, data) else none

theorem clsFind_own {K : Frag} {C : Addr} {name : Str} {attr get : Option Value} {od : Obj} {v : Value} (h : clsFind K C name = some (attr, get, false)) (hl : lookIn name od = some (some v)) : findObj K C (some od) name = some (.value v) := by
  obtain ⟨cd, h1, h⟩ := Option.bind_eq_some_iff.mp h
  split at h
  · rename_i hd
    obtain ⟨at', h2, h⟩ := Option.bind_eq_some_iff.mp h
    obtain ⟨g', h3, h⟩ := Option.bind_eq_some_iff.mp h
    obtain ⟨d', h4, h⟩ := Option.bind_eq_some_iff.mp h
    cases h
    unfold findObj
    have ho : PySem.W.ownOf cd (some od) name = some (some v) := by unfold PySem.W.ownOf; rw [hd]; exact hl
    cases attr <;> cases get <;> dsimp only at h3 h4 <;> first | (cases h3; done) | simp only [h1, h2, h3, h4, ho, Option.bind_some]
  · cases h
theorem clsFind_bind {K : Frag} {C : Addr} {name : Str} {a g : Value} {od : Obj} (h : clsFind K C name = some (some a, some g, false)) (hl : lookIn name od = some none) (hcp : copiedNames.contains name = false) : findObj K C (some od) name = some (.bind g a) := by
  obtain ⟨cd, h1, h⟩ := Option.bind_eq_some_iff.mp h
  split at h
  · rename_i hd
    obtain ⟨at', h2, h⟩ := Option.bind_eq_some_iff.mp h
    obtain ⟨g', h3, h⟩ := Option.bind_eq_some_iff.mp h
    obtain ⟨d', h4, h⟩ := Option.bind_eq_some_iff.mp h
    cases h
    unfold findObj
    have ho : PySem.W.ownOf cd (some od) name = some none := by unfold PySem.W.ownOf; rw [hd]; exact hl
    dsimp only at h3 h4
    simp only [h1, h2, h3, h4, ho, Option.bind_some, hcp, Bool.false_and, Bool.false_eq_true, if_false]
  · cases h

/-- a class of the program whose instances are plain -/
structure Cls (K : Frag) (C : Addr) : Prop where
  getattribute : findIn K (.ref C) "__getattribute__" = some (some (.builtin "object.__getattribute__"))
  getattr : findIn K (.ref C) "__getattr__" = some none
  setattr : findIn K (.ref C) "__setattr__" = some (some (.builtin "object.__setattr__"))
  over : plainOver K C = true
  dict : (clsIn K C).any (·.hasDict) = true
  makes : makesIn K C = true

section
variable {prog : Program} {w : World} {A : Around} {σ s : Shared} {G : Array GenState → Prop} {L L' : List Cell} {env : Env} {K : Frag} {x C dx : Addr} {l : List (Str × Value)} {name : Str}

theorem T_attr {value : Expr} {attr : Str} {pos : Pos} {Q : Value → Shared → Prop}
    (k : W prog w A (eval value env) (fun o s₁ => W prog w A (getAttr o attr true) Q s₁) s)
    (he : eval (.Attribute value attr pos) env = (do
      let o ← eval value env
      standAt pos.atName
      let r ← holding [o] (getAttr o attr true)
      letTemporaryGo value o r
      pure r) := by with_unfolding_all rfl) : W prog w A (eval (.Attribute value attr pos) env) Q s := Attribute_any_ k he

theorem T_getOwn {expr : Bool} {attr get : Option Value} {v : Value} {Q : Value → Shared → Prop} (X : K.In σ.heap) (hC : Cls K C) (hf : clsFind K C name = some (attr, get, false)) (h : St σ G L s) (hx : (x, ins C dx) ∈ L) (hd : (dx, sd prog w l) ∈ L) (hv : l.lookup name = some v) (hh : handedIn v = true)
    (k : ∀ s', St σ G L s' → Q v s') : W prog w A (getAttr (.ref x) name expr) Q s := by
  obtain ⟨od, hsd, hod, I⟩ := h.inst hx hd
  exact get_value (X.keeps h.keep) I hC.getattribute (clsFind_own hf (by rw [sd_look hsd, hv])) hh (k _ (h.toks _))
theorem T_getDictType {expr : Bool} {Q : Value → Shared → Prop} (X : K.In σ.heap) (hC : Cls K C) (ha : findIn K (.ref C) name = some (some (.type "dict"))) (h : St σ G L s) (hx : (x, ins C dx) ∈ L) (hd : (dx, sd prog w l) ∈ L) (hv : l.lookup name = none) (hcp : copiedNames.contains name = false)
    (k : ∀ s', St σ G L s' → Q (.type "dict") s') : W prog w A (getAttr (.ref x) name expr) Q s := by
  obtain ⟨od, hsd, hod, I⟩ := h.inst hx hd
  obtain ⟨cd, hcd, hhd⟩ := any_some hC.dict
  exact get_found (X.keeps h.keep) I hC.getattribute (looks_clsVal (X.keeps h.keep) I hcd ha dictType_noGet (by unfold PySem.W.ownOf; rw [hhd]; simp only [if_true]; rw [sd_look hsd, hv]) hcp rfl) rfl (k _ (h.toks _))
theorem T_getBind {expr : Bool} {a g : Addr} {Q : Value → Shared → Prop} (X : K.In σ.heap) (hC : Cls K C) (hf : clsFind K C name = some (some (.ref a), some (.ref g), false)) (h : St σ G L s) (hx : (x, ins C dx) ∈ L) (hd : (dx, sd prog w l) ∈ L) (hv : l.lookup name = none) (hcp : copiedNames.contains name = false)
    (k : ∀ s', St σ G L s' → CallF prog w A.in1 σ g [.ref a, .ref x, .ref C] (fun v s₂ => handedIn v = true ∧ Q v s₂) s') : W prog w A (getAttr (.ref x) name expr) Q s := by
  obtain ⟨od, hsd, hod, I⟩ := h.inst hx hd
  refine get_bind (X.keeps h.keep) I hC.getattribute (clsFind_bind hf (by rw [sd_look hsd, hv]) hcp) hC.getattr ?_
  refine W.any (W.mono (CallF.run (k _ (h.toks _))) (fun v s₂ hv => ?_))
  rw [handedOut_of hv.1]
  exact wpAny_pure hv.2

theorem nsGet_sd {Q : Option Value → Shared → Prop} (h : St σ G L s) (hd : (dx, sd prog w l) ∈ L) (k : Q (l.lookup name) s) : W prog w A (nsGet dx name) Q s := by
  obtain ⟨od, hod, hsd⟩ := h.get hd
  obtain ⟨es, ep, h1, h2, h3⟩ := sd_ns hsd
  exact wpAny_nsGet (m := fun n => l.lookup n) ⟨od, es, ep, hod, h1, h2, h3⟩ k

theorem method_head {pl : Sem Bool} {Q : Value × List Value → Shared → Prop} {f : Value} (X : K.In σ.heap) (hC : Cls K C) (hf : findIn K (.ref C) name = some (some f)) (h : St σ G L s) (hx : (x, ins C dx) ∈ L) (hd : (dx, sd prog w l) ∈ L) {tf : Value}
    (htf : ∀ M h, K.In h → Looks M h (typeOf f) tf)
    (k1 : (tf != .type "function" && tf != .type "method_descriptor" && tf != .type "wrapper_descriptor") = true → W prog w A (getAttr (.ref x) name) (fun v s' => Q (v, []) s') s)
    (k2 : (tf != .type "function" && tf != .type "method_descriptor" && tf != .type "wrapper_descriptor") = false → l.lookup name = none ∧ Q (f, [.ref x]) s) : W prog w A (getMethod (.ref x) name pl) Q s := by
  obtain ⟨od, hsd, hod, I⟩ := h.inst hx hd
  have XK := X.keeps h.keep
  unfold getMethod
  refine wpAny_bind ((I.type.andThen (looks_findIn XK hC.getattribute)).here ?_)
  show W prog w A (if (Manifest.canonical "object.__getattribute__" != "object.__getattribute__") = true then _ else _) Q s
  rw [show (Manifest.canonical "object.__getattribute__" != "object.__getattribute__") = false by decide +kernel, if_neg Bool.false_ne_true]
  refine wpAny_bind ((I.type.andThen (looks_findIn XK hC.getattr)).here ?_)
  show W prog w A (if (none : Option Value).isSome = true then _ else _) Q s
  rw [if_neg (by decide)]
  refine wpAny_bind ((I.type.andThen (looks_findIn XK hf)).here ?_)
  refine wpAny_bind ((htf _ _ XK).here ?_)
  split
  · rename_i hc
    exact wpAny_bind (W.mono (k1 hc) (fun v s' q => wpAny_pure q))
  · rename_i hc
    obtain ⟨hl, hq⟩ := k2 (by simpa using hc)
    refine wpAny_bind (wpAny_loadPart I.at_ ?_)
    refine wpAny_bind (nsGet_sd h hd ?_)
    rw [hl]
    exact wpAny_bind (wpAny_rule (wpAny_pure hq))
theorem T_getMethodFn {pl : Sem Bool} {Q : Value × List Value → Shared → Prop} {f : Addr} (X : K.In σ.heap) (hC : Cls K C) (hf : findIn K (.ref C) name = some (some (.ref f))) (htf : typeIn K (.ref f) = some (.type "function")) (h : St σ G L s) (hx : (x, ins C dx) ∈ L) (hd : (dx, sd prog w l) ∈ L) (hv : l.lookup name = none)
    (k : Q (.ref f, [.ref x]) s) : W prog w A (getMethod (.ref x) name pl) Q s :=
  method_head X hC hf h hx hd (fun M h Xh => looks_typeIn Xh htf) (fun e => absurd e (by decide)) (fun _ => ⟨hv, k⟩)
theorem T_getMethodDict {pl : Sem Bool} {Q : Value × List Value → Shared → Prop} (X : K.In σ.heap) (hC : Cls K C) (hf : findIn K (.ref C) name = some (some (.type "dict"))) (h : St σ G L s) (hx : (x, ins C dx) ∈ L) (hd : (dx, sd prog w l) ∈ L) (hv : l.lookup name = none) (hcp : copiedNames.contains name = false)
    (k : ∀ s', St σ G L s' → Q (.type "dict", []) s') : W prog w A (getMethod (.ref x) name pl) Q s :=
  method_head X hC hf h hx hd (tf := .type "type") (fun M h Xh => by
    have e2 : typeOf (.type "dict") = pure (.type "type") := by kernel_rfl
    rw [e2]; exact .now) (fun _ => T_getDictType X hC hf h hx hd hv hcp k) (fun e => absurd e (by decide))
theorem T_getMethodBind {pl : Sem Bool} {Q : Value × List Value → Shared → Prop} {a g c : Addr} (X : K.In σ.heap) (hC : Cls K C) (hf : clsFind K C name = some (some (.ref a), some (.ref g), false)) (hff : findIn K (.ref C) name = some (some (.ref a))) (htf : typeIn K (.ref a) = some (.ref c)) (h : St σ G L s) (hx : (x, ins C dx) ∈ L) (hd : (dx, sd prog w l) ∈ L) (hv : l.lookup name = none) (hcp : copiedNames.contains name = false)
    (k : ∀ s', St σ G L s' → CallF prog w A.in1 σ g [.ref a, .ref x, .ref C] (fun v s₂ => handedIn v = true ∧ Q (v, []) s₂) s') : W prog w A (getMethod (.ref x) name pl) Q s :=
  method_head X hC hff h hx hd (fun M h Xh => looks_typeIn Xh htf) (fun _ => T_getBind X hC hf h hx hd hv hcp k) (fun e => absurd e (by simp))
theorem T_getMethodOwn {pl : Sem Bool} {Q : Value × List Value → Shared → Prop} {a c : Addr} {get : Option Value} {v : Value} (X : K.In σ.heap) (hC : Cls K C) (hf : clsFind K C name = some (some (.ref a), get, false)) (hff : findIn K (.ref C) name = some (some (.ref a))) (htf : typeIn K (.ref a) = some (.ref c)) (h : St σ G L s) (hx : (x, ins C dx) ∈ L) (hd : (dx, sd prog w l) ∈ L) (hv : l.lookup name = some v) (hh : handedIn v = true)
    (k : ∀ s', St σ G L s' → Q (v, []) s') : W prog w A (getMethod (.ref x) name pl) Q s :=
  method_head X hC hff h hx hd (fun M h Xh => looks_typeIn Xh htf) (fun _ => T_getOwn X hC hf h hx hd hv hh k) (fun e => absurd e (by simp))

theorem sd_nil : sd prog w [] emptyDict := ⟨⟨rfl, rfl⟩, #[], 0, rfl, fun e he => by simp at he, by simp, fun k => rfl⟩

/-- a new object -/
theorem T_make {fI : Addr} {Q : Value → Shared → Prop} (X : K.In σ.heap) (hC : Cls K C) (hi : findIn K (.ref C) "__init__" = some (some (.ref fI))) (hf : typeIn K (.ref fI) = some (.type "function")) (h : St σ G L s) (hd : A.depth ≤ 890)
    (vals : List Value)
    (k : ∀ (A' : Around) x dx s', A'.depth ≤ 900 → A'.handled = A.handled → St σ G ((x, ins C dx) :: (dx, sd prog w []) :: L) s' → CallF prog w A' σ fI (.ref x :: vals) (fun v s₂ => v = .none ∧ Q (.ref x) s₂) s') : W prog w A (call (.ref C) vals) Q s := by
  obtain ⟨hh, g, d, t, os⟩ := s
  have XK := X.keeps h.keep
  refine wpAny_call (make_core (makes_of XK hC.makes) (looks_findIn XK hi) (fun self => bind_fn XK self hf) (.inl rfl) ?_)
  have h1 := h.push (P := sd prog w []) (o := emptyDict) (t := t) rfl sd_nil
  have h2 := h1.push (P := ins C hh.objs.size) (o := instObj C hh.objs.size) (t := t) rfl rfl
  have e : ({ heap := hh, gens := g, drawn := d, toks := t, os := os : Shared }.heap.push emptyDict).objs.size = hh.objs.size + 1 := Heap.size_push ..
  refine codeAny_mono (k (A.under (.builtin "type.__call__" ⟨.ref C :: vals, []⟩)) (hh.objs.size + 1) hh.objs.size _ ?_ rfl ?_).2 (fun r s' z => ?_)
  · show A.depth + _ ≤ 900
    have : (Code.builtin "type.__call__" ⟨.ref C :: vals, []⟩).weight ≤ 10 := by
      have e : (Code.builtin "type.__call__" ⟨.ref C :: vals, []⟩).weight = 1 := by first | rfl | kernel_rfl
      omega
    omega
  · rw [← e]; exact h2
  · rcases r with e | (v | _ | _ | _) <;> first | exact z.elim | exact z
end
end Mine

namespace Mine
open PySem PySem.W PySem.Calls PyProof.Rows

/-- a dict whose keys are ints -/
def dct (prog : Program) (w : World) (kvs : List (Int × Value)) : Pr := fun o => o.IsDictOf (PySem.intKind prog w) kvs
/-- the same while an iterator runs over it -/
def dcE (prog : Program) (w : World) (kvs : List (Int × Value)) (ep : Nat) : Pr := fun o => ∃ es, o.ExactDict ∧ o.data = .dict es ep ∧ KeysOf (PySem.intKind prog w) es ∧ Pairs (PySem.intKind prog w) es.toList kvs ∧ (kvs.map (·.1)).Nodup
def kit (d : Addr) (i n ep : Nat) : Pr := fun o => o.cls = .type "dict_keyiterator" ∧ o.data = .fields #[.ref d, .int i 0, .int n 0, .int ep 0]

section
variable {prog : Program} {w : World} {A : Around} {σ s : Shared} {G : Array GenState → Prop} {L L' : List Cell} {env : Env} {d : Addr} {kvs : List (Int × Value)}

theorem dct_nil : dct prog w [] { cls := .type "dict", data := .dict #[] } := ⟨#[], 0, ⟨rfl, rfl, rfl⟩, rfl, fun e he => by simp at he, .nil, List.nodup_nil⟩
theorem sys_ne (h : d ≠ sysModules) : (d == sysModules) = false := beq_eq_false_iff_ne.mpr h
theorem St.dof (h : St σ G L s) (hd : (d, dct prog w kvs) ∈ L) : s.heap.DictOf (PySem.intKind prog w) d kvs ∧ (d == sysModules) = false := by
  obtain ⟨o, ho, hk⟩ := h.get hd
  exact ⟨Heap.dictOf_iff.mpr ⟨o, ho, hk⟩, sys_ne (h.off _ hd).2⟩
theorem St.dat {ep : Nat} (h : St σ G L s) (hd : (d, dcE prog w kvs ep) ∈ L) : s.heap.DictAt (PySem.intKind prog w) d kvs ep ∧ (d == sysModules) = false := by
  obtain ⟨o, ho, es, hk⟩ := h.get hd
  exact ⟨⟨o, es, ho, hk⟩, sys_ne (h.off _ hd).2⟩
theorem ik {k : Int} {t : Tok} : (PySem.intKind prog w).is k (.int k t) = true := PySem.intKind_is prog w k t
theorem dct_of {h : Heap} (x : h.DictOf (PySem.intKind prog w) d kvs) : ∃ o, h.get? d = some o ∧ dct prog w kvs o := Heap.dictOf_iff.mp x

/-- opened for an iterator, and shut -/
theorem St.openD {F R : List Cell} (h : St σ G (F ++ (d, dct prog w kvs) :: R) s) : ∃ ep, St σ G (F ++ (d, dcE prog w kvs ep) :: R) s := by
  obtain ⟨o, ho, es, ep, hx⟩ := h.get (List.mem_append_right _ (.head _))
  refine ⟨ep, h.gens, h.drawn, h.os, h.keep, fun p hp => ?_, ?_, fun p hp => ?_⟩
  · rcases List.mem_append.mp hp with hp | hp
    · exact h.live p (List.mem_append_left _ hp)
    · rcases List.mem_cons.mp hp with rfl | hp
      · exact ⟨o, ho, es, hx⟩
      · exact h.live p (List.mem_append_right _ (.tail _ hp))
  · have := h.nd
    simp only [List.map_append, List.map_cons] at this ⊢
    exact this
  · rcases List.mem_append.mp hp with hp | hp
    · exact h.off p (List.mem_append_left _ hp)
    · rcases List.mem_cons.mp hp with rfl | hp
      · exact h.off (d, dct prog w kvs) (List.mem_append_right _ (.head _))
      · exact h.off p (List.mem_append_right _ (.tail _ hp))
theorem dcE_dct {ep : Nat} {o : Obj} (h : dcE prog w kvs ep o) : dct prog w kvs o := let ⟨es, r⟩ := h; ⟨es, ep, r⟩

theorem D_in {k : Int} {t : Tok} {Q : Value → Shared → Prop} (h : St σ G L s) (hd : (d, dct prog w kvs) ∈ L) (k' : ∀ s', St σ G L s' → Q (.bool (valueAt kvs k).isSome) s') : W prog w A (compareOp .In (.int k t) (.ref d)) Q s := by
  obtain ⟨h1, h2⟩ := h.dof hd
  exact wpAny_in_of ik h2 h1.mapOf (k' _ (h.toks _))
theorem D_notIn {k : Int} {t : Tok} {Q : Value → Shared → Prop} (h : St σ G L s) (hd : (d, dct prog w kvs) ∈ L) (k' : ∀ s', St σ G L s' → Q (.bool (!(valueAt kvs k).isSome)) s') : W prog w A (compareOp .NotIn (.int k t) (.ref d)) Q s := by
  obtain ⟨h1, h2⟩ := h.dof hd
  exact wpAny_notIn_of ik h2 h1.mapOf (k' _ (h.toks _))
theorem D_getItem {k : Int} {t : Tok} {v : Value} {Q : Value → Shared → Prop} (h : St σ G L s) (hd : (d, dct prog w kvs) ∈ L) (hv : valueAt kvs k = some v) (k' : ∀ s', St σ G L s' → Q v s') : W prog w A (getItem (.ref d) (.int k t)) Q s :=
  wpAny_getItem_of ik (h.dof hd).1.mapOf hv (k' _ (h.toks _))
theorem D_item {value slice : Expr} {k : Int} {t : Tok} {v : Value} {Q : Value → Shared → Prop} (h : St σ G L s) (hd : (d, dct prog w kvs) ∈ L) (hv : valueAt kvs k = some v) (k' : ∀ s', St σ G L s' → Q v s')
    (hs : subscripted slice false (.ref d) (.int k t) = operate [.ref d, .int k t] (getItem (.ref d) (.int k t)) := by with_unfolding_all rfl) : W prog w A (subscriptTail value slice (.ref d) (.int k t)) Q s :=
  tail_any (h.dof hd).1.typeIs slot_dict_getitem.lookup (D_getItem h hd hv k') hs
theorem D_setItem {k : Int} {t : Tok} {v : Value} {Q : Unit → Shared → Prop} (h : St σ G L s) (hp : Put d (dct prog w kvs) (dct prog w (stored kvs k v)) L L') (hz : kvs.length ≤ 1000) (k' : ∀ s', St σ G L' s' → Q () s') : W prog w A (setItem (.ref d) (.int k t) v) Q s :=
  wpAny_setItem_pairs ik (h.dof hp.mem).1 (fun h' hm hs => k' _ (h.put hp hs (dct_of hm))) (sz hz)
theorem D_dictSet {k : Int} {t : Tok} {v : Value} {Q : Unit → Shared → Prop} (h : St σ G L s) (hp : Put d (dct prog w kvs) (dct prog w (stored kvs k v)) L L') (hz : kvs.length ≤ 1000) (k' : ∀ s', St σ G L' s' → Q () s') : W prog w A (dictSet d (.int k t) v) Q s :=
  wpAny_dictSet_pairs ik (h.dof hp.mem).1 (fun h' hm hs => k' _ (h.put hp hs (dct_of hm))) (sz hz)
theorem D_delItem {k : Int} {t : Tok} {Q : Unit → Shared → Prop} (h : St σ G L s) (hp : Put d (dct prog w kvs) (dct prog w (without kvs k)) L L') (hz : kvs.length ≤ 1000) (hv : (valueAt kvs k).isSome = true) (k' : ∀ s', St σ G L' s' → Q () s') : W prog w A (delItem (.ref d) (.int k t)) Q s := by
  have hD := (h.dof hp.mem).1
  unfold delItem
  try with_reducible refine wpAny_holding ?_
  refine wpAny_bind (wpAny_sequenceKey hD.typeIs (by decide) ?_)
  refine wpAny_bind (wpAny_callSpecial?_slot (name := Str.ofString "__delitem__") hD.typeIs PySem.F.slot_dict_delitem
    (call_meetsIn PySem.F.slot_dict_delitem hD.typeIs PySem.F.entry_dict_delitem (PySem.F.args_dict_delitem_2 _ _) (meets_dict_delitem_pairs (PySem.intKind prog w) d ik) ⟨kvs, hD, sz hz, hv, fun h' hm hs => ?_⟩))
  exact wpAny_pure (k' _ (h.put hp hs (dct_of hm)))
theorem D_len {Q : Value → Shared → Prop} (h : St σ G L s) (hd : (d, dct prog w kvs) ∈ L) (hz : kvs.length ≤ 1000) (k : ∀ t s', St σ G L s' → Q (.int kvs.length t) s') : W prog w A (call (.builtin "len") [.ref d]) Q s := by
  obtain ⟨h1, h2⟩ := h.dof hd
  exact call_len_dict h2 h1 (by omega) (k _ _ (h.toks _))
theorem D_truthy {Q : Bool → Shared → Prop} (h : St σ G L s) (hd : (d, dct prog w kvs) ∈ L) (hz : kvs.length ≤ 1000) (k : ∀ s', St σ G L s' → Q (!kvs.isEmpty) s') : W prog w A (truthy (.ref d)) Q s := by
  obtain ⟨h1, h2⟩ := h.dof hd
  exact wpAny_truthy_dict h2 h1 (by omega) (k _ (h.toks _))

-- METHODS
theorem getMethod_dict {name : Str} {id : String} {pl : Sem Bool} {a : Addr} {o : Obj} {Q : Value × List Value → Shared → Prop} (ho : s.heap.get? a = some o) (he : o.cls = .type "dict" ∧ o.dict = none) (slot : Slot "dict" name id) (ht : typeOf (.builtin id) = pure (.type "method_descriptor"))
    (k : Q (.builtin id, [.ref a]) s) : W prog w A (getMethod (.ref a) name pl) Q s :=
  getMethod_builtin ⟨_, ho, he.1⟩ PySem.F.plainAttrs_dict slot ht (fun b e => by cases e; exact ⟨_, ho, he.2⟩) k
theorem dct_exact {o : Obj} (h : dct prog w kvs o) : o.cls = .type "dict" ∧ o.dict = none := let ⟨_, _, h, _⟩ := h; ⟨h.1, h.2.1⟩
theorem D_getGet {pl : Sem Bool} {Q : Value × List Value → Shared → Prop} (h : St σ G L s) (hd : (d, dct prog w kvs) ∈ L) (k : Q (.builtin "dict.get", [.ref d]) s) : W prog w A (getMethod (.ref d) "get" pl) Q s := by
  obtain ⟨o, ho, hk⟩ := h.get hd
  exact getMethod_dict ho (dct_exact hk) PySem.F.slot_dict_get PySem.F.type_dict_get k
theorem D_getUpdate {pl : Sem Bool} {Q : Value × List Value → Shared → Prop} (h : St σ G L s) (hd : (d, dct prog w kvs) ∈ L) (k : Q (.builtin "dict.update", [.ref d]) s) : W prog w A (getMethod (.ref d) "update" pl) Q s := by
  obtain ⟨o, ho, hk⟩ := h.get hd
  exact getMethod_dict ho (dct_exact hk) PySem.F.slot_dict_update PySem.F.type_dict_update k
theorem D_get2 {k : Int} {t : Tok} {dv : Value} {Q : Value → Shared → Prop} (h : St σ G L s) (hd : (d, dct prog w kvs) ∈ L) (k' : ∀ s', St σ G L s' → Q ((valueAt kvs k).getD dv) s') : W prog w A (call (.builtin "dict.get") [.ref d, .int k t, dv]) Q s := by
  obtain ⟨h1, h2⟩ := h.dof hd
  exact call_meetsIn PySem.F.slot_dict_get h1.typeIs PySem.F.entry_dict_get (PySem.F.args_dict_get_3 _ _ _) (meets_dict_get_default (PySem.intKind prog w) d ik h2 dv) ⟨_, h1.mapOf, k' _ (h.toks _)⟩
theorem D_update0 {e : Addr} {Q : Value → Shared → Prop} (h : St σ G L s) (hd : (d, dct prog w kvs) ∈ L) (he : (e, dct prog w []) ∈ L) (hne : d ≠ e) (hz : kvs.length ≤ 1000) (k : ∀ s', St σ G L s' → Q .none s') : W prog w A (call (.builtin "dict.update") [.ref d, .ref e]) Q s := by
  obtain ⟨h1, h2⟩ := h.dof hd
  obtain ⟨h3, h4⟩ := h.dof he
  refine call_meetsIn PySem.F.slot_dict_update h1.typeIs PySem.F.entry_dict_update (PySem.F.args_dict_update_2 _ _) (meets_dict_update (PySem.intKind prog w) d e hne h4) ⟨kvs, [], h1, h3, by simpa using sz hz, fun h' hm _ hs => ?_⟩
  obtain ⟨F, R, rfl⟩ := has_split hd
  exact k _ (h.put (t := s.toks) (put_mid F) hs (dct_of hm))
-- NEW DICTS
theorem D_display {pos : Pos} {Q : Value → Shared → Prop} (h : St σ G L s) (k : ∀ d s', St σ G ((d, dct prog w []) :: L) s' → Q (.ref d) s') : W prog w A (eval (.Dict [] [] pos) env) Q s :=
  wpAny_Dict_empty (k _ _ (h.push (t := s.toks) rfl dct_nil))
theorem D_new {Q : Value → Shared → Prop} (h : St σ G L s) (k : ∀ d s', St σ G ((d, dct prog w []) :: L) s' → Q (.ref d) s') : W prog w A newDict Q s := by
  unfold newDict
  exact wpAny_newObj_type (k _ _ (h.push (t := s.toks) rfl dct_nil))

theorem typeCall_dict_0 : checkTypeCall "dict" ⟨[], []⟩ = pure () := by kernel_rfl
theorem newCall_dict_0 : checkBuiltinCall "dict.__new__" ⟨[.type "dict"], []⟩ = pure () := by kernel_rfl
theorem code_dict_new0 {E : Value → Shared → Prop} {Q₁ : Value → Shared → Prop} (h : Q₁ (.ref s.heap.objs.size) { s with heap := s.heap.push { cls := .type "dict", data := .dict #[] } }) :
    codeAny (model prog w) A (.call (.builtin "dict.__new__") ⟨[.type "dict"], []⟩) (wants Q₁ E) s := by
  refine codeAny_call_builtin PySem.F.kt_plain_dict_new PySem.F.kt_entry_dict_new (wpAny_of_eq newCall_dict_0 ?_)
  have hsub := PySem.F.kt_sub_dict
  have hmro := PySem.F.kt_mro_dict
  obtain ⟨hp, g, d, tk, os⟩ := s
  unfold Builtin.«dict.__new__»
  wp_walk
  exact h
theorem D_call0 {Q : Value → Shared → Prop} (h : St σ G L s) (k : ∀ d s', St σ G ((d, dct prog w []) :: L) s' → Q (.ref d) s') : W prog w A (call (.type "dict") []) Q s := by
  refine callType_codes (Q₁ := fun obj s₁ => obj = .ref s.heap.objs.size ∧ s₁ = { s with heap := s.heap.push { cls := .type "dict", data := .dict #[] } }) PySem.F.kt_called_dict typeCall_dict_0 PySem.F.entry_dict_init (code_dict_new0 ⟨rfl, rfl⟩) ?_
  rintro obj s₁ ⟨rfl, rfl⟩
  have hnew : (s.heap.push { cls := .type "dict", data := .dict #[] }).DictOf (PySem.intKind prog w) s.heap.objs.size [] := Heap.DictOf.new s.heap
  refine ⟨hnew.typeIs, PySem.F.args_dict_init_1 _, ?_⟩
  unfold Builtin.«dict.__init__»
  refine wpAny_bind ?_
  unfold Builtin.Dict.selfAndRest
  refine wpAny_bind (wpAny_notOrdered_dict hnew.typeIs ?_)
  show wpAny _ _ (pure (s.heap.objs.size, [])) _ _ _
  refine wpAny_pure ?_
  show wpAny _ _ (Builtin.Dict.addKeywords s.heap.objs.size [] >>= _) _ _ _
  exact wpAny_bind (wpAny_pure (wpAny_pure ⟨rfl, k _ _ (h.push (t := s.toks) rfl dct_nil)⟩))
theorem T_withT0 {pos : Pos} {T : String} {Q : Value → Shared → Prop} (k : W prog w A (call (.type T) []) Q s) : W prog w A (callWith pos (.type T) [] (backTo pos (starEach [] env)) []) Q s := PyProof.Rows.callWith_type0 k

-- ITERATION
theorem D_iter {F R : List Cell} {Q : Value → Shared → Prop} (h : St σ G (F ++ (d, dct prog w kvs) :: R) s) (k : ∀ it ep s', St σ G ((it, kit d 0 kvs.length ep) :: (F ++ (d, dcE prog w kvs ep) :: R)) s' → Q (.ref it) s') : W prog w A (pyIter (.ref d)) Q s := by
  obtain ⟨ep, h⟩ := h.openD
  obtain ⟨h1, h2⟩ := h.dat (List.mem_append_right _ (.head _))
  exact wpAny_pyIter_dict h2 h1 (k _ ep _ (h.push (t := s.toks) rfl ⟨rfl, rfl⟩))
theorem Src.dict (hA : A.handled = none) (it d : Addr) (kvs : List (Int × Value)) (ep : Nat) (x : Str) (p : Pos) :
    Src prog w A σ (fun _ => G) (.ref it) (.Name x p) kvs.length [(d, dct prog w kvs)] (fun i => [(it, kit d i kvs.length ep), (d, dcE prog w kvs ep)]) (fun i v W => ∃ n t, (kvs.map (·.1))[i]? = some n ∧ v = .int n t ∧ W = []) where
  next := fun {i L s K} hi h k => by
    obtain ⟨h1, h2⟩ := h.dat (prog := prog) (w := w) (d := d) (kvs := kvs) (ep := ep) (.tail _ (.head _))
    have hx : kvs[i]? = some (kvs[i].1, kvs[i].2) := List.getElem?_eq_getElem hi
    have hit : s.heap.IsKeyIter it d i kvs.length ep := by obtain ⟨o, ho, r⟩ := h.get (.head _); exact ⟨o, ho, r⟩
    refine wpAny_pyNext_dict_item hit h1 hx (fun key h' hkey hit' hs => ?_)
    have hk : ∃ t, key = .int kvs[i].1 t := by
      have hkey : Value.isInt kvs[i].1 key = true := hkey
      cases key <;> simp_all [Value.isInt]
    obtain ⟨t, rfl⟩ := hk
    show W prog w A (pure ()) _ _
    refine wpAny_pure (k _ [] _ ⟨kvs[i].1, t, by rw [List.getElem?_map, hx]; rfl, rfl, rfl⟩ (h.same (t := s.toks) hs ?_))
    obtain ⟨o, ho, e⟩ := hit'
    exact ⟨o, ho, e⟩
  stop := fun {L s K} h k => by
    obtain ⟨h1, h2⟩ := h.dat (prog := prog) (w := w) (d := d) (kvs := kvs) (ep := ep) (.tail _ (.head _))
    have hit : s.heap.IsKeyIter it d kvs.length kvs.length ep := by obtain ⟨o, ho, r⟩ := h.get (.head _); exact ⟨o, ho, r⟩
    refine wpAny_pyNext_dict_end hA hit h1 (by simp) (fun h' hs => k _ ?_)
    have h3 : St σ G ((d, dcE prog w kvs ep) :: L) _ := h.lose (W := [(it, kit d kvs.length kvs.length ep)]) (h' := h') (t := s.toks) (fun b o hb e => hs b o (fun q => hb (by simp [q])) e)
    exact h3.weaken (fun o ho => dcE_dct ho)
end
end Mine

namespace Mine
open PySem PySem.W PySem.Calls PyProof.Rows

section
variable {prog : Program} {w : World} {A : Around} {σ s : Shared} {G : Array GenState → Prop} {L L' : List Cell} {env : Env} {d : Addr} {kvs : List (Int × Value)}

-- INTS
theorem T_binop {l r : Expr} {op : Operator} {pos : Pos} {Q : Value → Shared → Prop}
    (k : W prog w A (eval l env) (fun a s₁ => W prog w A (eval r env) (fun b s₂ => W prog w A (binaryOp op a b) Q s₂) s₁) s) : W prog w A (eval (.BinOp l op r pos) env) Q s := wpAny_BinOp k
theorem T_addInt {a b : Int} {t u : Tok} {Q : Value → Shared → Prop} (h : St σ G L s) (k : ∀ t s', St σ G L s' → Q (.int (a + b) t) s') : W prog w A (binaryOp .Add (.int a t) (.int b u)) Q s := PyProof.Rows.add_int (k _ _ (h.toks _))
theorem T_modInt {a b : Int} {t u : Tok} {Q : Value → Shared → Prop} (h : St σ G L s) (hb : b ≠ 0) (k : ∀ t s', St σ G L s' → Q (.int (a.fmod b) t) s') : W prog w A (binaryOp .Mod (.int a t) (.int b u)) Q s := PyProof.Rows.mod_int hb (k _ _ (h.toks _))
theorem T_isubInt {a b : Int} {t u : Tok} {Q : Value → Shared → Prop} (h : St σ G L s) (k : ∀ t s', St σ G L s' → Q (.int (a - b) t) s') : W prog w A (inplaceOp .Sub (.int a t) (.int b u)) Q s := PySem.P.isub_int (k _ _ (h.toks _))

-- NODES
theorem T_ifExp {test body orelse : Expr} {pos : Pos} {Q : Value → Shared → Prop}
    (k : W prog w A (isTrue test env (eval test env)) (fun c s₂ => if c then W prog w A (eval body env) Q s₂ else W prog w A (eval orelse env) Q s₂) s) : W prog w A (eval (.IfExp test body orelse pos) env) Q s := PyProof.Rows.IfExp_ k
theorem T_isAnd2 {x y : Expr} {pos : Pos} {whole : Sem Value} {Q : Bool → Shared → Prop}
    (k : W prog w A (isTrue x env (eval x env)) (fun b s₁ => if b then W prog w A (isTrue y env (eval y env)) Q s₁ else Q false s₁) s) : W prog w A (isTrue (.BoolOp .And [x, y] pos) env whole) Q s := by
  refine wpAny_isTrue_BoolOp (wpAny_allTrue_And_cons (W.mono k (fun b s₁ h₁ => ?_)))
  cases b with
  | false => exact h₁
  | true => exact wpAny_allTrue_And_cons (W.mono h₁ (fun c s₂ h₂ => by cases c with | false => exact h₂ | true => exact wpAny_allTrue_And_nil h₂))
theorem T_isAny {e : Expr} {whole : Sem Value} {Q : Bool → Shared → Prop} (k : W prog w A whole (fun v s₁ => W prog w A (truthy v) Q s₁) s)
    (he : isTrue e env whole = (do let v ← whole; standAt e.pos; holding [v] (truthy v)) := by rfl) : W prog w A (isTrue e env whole) Q s := wpAny_isTrue_value k he
theorem T_try {body : List Stmt} {h₀ : ExceptHandler} {hs : List ExceptHandler} {pos : Pos} {Q : Flow → Shared → Prop} (k : W prog w A (execs body env) Q s) : W prog w A (exec (.Try body (h₀ :: hs) [] [] pos) env) Q s :=
  wpAny_Try_except (wpAny_mono k (fun f s₁ h₁ => by cases f with | next => exact wpAny_execs_nil h₁ | _ => exact h₁) fun _ _ x => x.elim)
theorem T_del1 {o i : Expr} {pos pos' : Pos} {Q : Flow → Shared → Prop}
    (k : W prog w A (eval o env) (fun ov s₁ => W prog w A (eval i env) (fun iv s₂ => W prog w A (delItem ov iv) (fun _ => Q .next) s₂) s₁) s) : W prog w A (exec (.Delete [.Subscript o i pos] pos') env) Q s :=
  wpAny_Delete (wpAny_deleteEach_cons (PyProof.Rows.delete_Subscript (W.mono k (fun ov s₁ h₁ => W.mono h₁ (fun iv s₂ h₂ => W.mono h₂ (fun _ s₃ h₃ => wpAny_deleteEach_nil h₃))))))
theorem T_augSub {o i : Expr} {pos' : Pos} {op : Operator} {value : Expr} {pos : Pos} {Q : Flow → Shared → Prop}
    (k : W prog w A (eval o env) (fun ov s₁ => W prog w A (eval i env) (fun iv s₂ => W prog w A (getItem ov iv) (fun old s₃ =>
      W prog w A (eval value env) (fun v s₄ => W prog w A (inplaceOp op old v) (fun new s₅ =>
        W prog w A (setItem ov iv new) (fun _ => Q .next) s₅) s₄) s₃) s₂) s₁) s)
    (ha : ∀ ov iv new, augStore i ov iv new = (do holding [new, ov, iv] (setItem ov iv new); release [new, ov, iv] []; pure .next) := by intro _ _ _; rfl) : W prog w A (exec (.AugAssign (.Subscript o i pos') op value pos) env) Q s :=
  PyProof.Rows.wpAny_AugAssign_Subscript_any k ha

-- LISTS OF INTS
theorem St.ilist {l : Addr} {ns : List Int} (h : St σ G L s) (hl : (l, ils ns) ∈ L) : ∃ vs n, IntsAre vs ns ∧ IsL s.heap l vs.toArray n := by
  obtain ⟨o, ho, vs, hv, n, rfl⟩ := h.get hl
  exact ⟨vs, n, hv, ho⟩
theorem ils_of {vs : List Value} {ns : List Int} {n : Nat} (hv : IntsAre vs ns) : ils ns { cls := .type "list", dict := none, data := .seq vs.toArray n, slots := #[] } := ⟨vs, hv, n, rfl⟩
theorem I_add {l b : Addr} {ns ms : List Int} {Q : Value → Shared → Prop} (h : St σ G L s) (hl : (l, ils ns) ∈ L) (hb : (b, ils ms) ∈ L) (hz : ns.length + ms.length ≤ 1000) (k : ∀ a s', St σ G ((a, ils (ns ++ ms)) :: L) s' → Q (.ref a) s') : W prog w A (binaryOp .Add (.ref l) (.ref b)) Q s := by
  obtain ⟨vs, n, hv, h1⟩ := h.ilist hl
  obtain ⟨ws, m, hw, h2⟩ := h.ilist hb
  refine PySem.P.add_list h1 h2 (k _ _ (h.push (t := s.toks) rfl ⟨vs ++ ws, hv.append hw, 0, by simp⟩)) ?_
  simpa [hv.length, hw.length] using sz hz
theorem intsAre_drop {vs : List Value} {ns : List Int} (h : IntsAre vs ns) (i : Nat) : IntsAre (vs.drop i) (ns.drop i) := by
  induction h generalizing i with
  | nil => simpa using IntsAre.nil
  | cons n u h ih => cases i with
    | zero => exact .cons _ _ h
    | succ i => exact ih i
theorem intsAre_take {vs : List Value} {ns : List Int} (h : IntsAre vs ns) (i : Nat) : IntsAre (vs.take i) (ns.take i) := by
  induction h generalizing i with
  | nil => simpa using IntsAre.nil
  | cons n u h ih => cases i with
    | zero => exact .nil
    | succ i => exact .cons _ _ (ih i)
theorem I_copy {l : Addr} {ns : List Int} {Q : Value → Shared → Prop} (h : St σ G L s) (hl : (l, ils ns) ∈ L) (hz : ns.length ≤ 1000) (k : ∀ a s', St σ G ((a, ils ns) :: L) s' → Q (.ref a) s') : W prog w A (call (.type "list") [.ref l]) Q s := by
  obtain ⟨vs, n, hv, h1⟩ := h.ilist hl
  refine call_list_seq l (.inl rfl) h1 rfl rfl (fun h' c' hk hn => ?_) (by simpa [hv.length] using sz hz)
  exact k _ _ (h.growAll (W := [(s.heap.objs.size, ils ns)]) (t := s.toks) hk (fun p hp => by
    rw [List.mem_singleton.mp hp]
    exact ⟨Nat.le_refl _, _, hn, ils_of hv⟩) (by simp))
theorem I_listRange {r : Addr} {n : Nat} {Q : Value → Shared → Prop} (hA : A.handled = none) (h : St σ G L s) (hr : (r, rngP 0 n) ∈ L) (hz : n ≤ 1000) (k : ∀ a s', St σ G ((a, ils ((List.range n).map (fun (i : Nat) => (i : Int)))) :: L) s' → Q (.ref a) s') : W prog w A (call (.type "list") [.ref r]) Q s := by
  obtain ⟨o, ho, t, u, v, rfl⟩ := h.get hr
  have e : Builtin.Range.rangeSize 0 (n : Int) 1 = n := by rw [rangeSize_one]; split <;> omega
  refine call_list_range (n := n) hA ho (small_one (by omega) (by omega) (by omega) (by omega)) e (by omega) (fun h' tk acc' c' hk hn hI => ?_)
  have key : IntsAre acc'.toList ((List.range n).map (fun (i : Nat) => (i : Int))) := by
    obtain ⟨hlen, hall⟩ := hI
    have : ∀ (vs : List Value) (m : Nat) (b : Nat), vs.length = m → (∀ j v, vs[j]? = some v → ∃ t : Tok, v = Value.int (((b + j : Nat) : Int)) t) → IntsAre vs ((List.range' b m).map (fun (i : Nat) => (i : Int))) := by
      intro vs
      induction vs with
      | nil => intro m b hm _; subst hm; exact .nil
      | cons x r ih =>
        intro m b hm hv
        subst hm
        obtain ⟨t, rfl⟩ := hv 0 x rfl
        rw [List.length_cons, List.range'_succ, List.map_cons]
        refine .cons _ _ (ih _ (b + 1) rfl (fun j v hj => ?_))
        obtain ⟨t, e⟩ := hv (j + 1) v (by simpa using hj)
        exact ⟨t, by rw [e, show b + 1 + j = b + (j + 1) by omega]⟩
    rw [List.range_eq_range']
    refine this acc'.toList n 0 (by rw [Array.length_toList]; exact hlen) (fun j v hj => ?_)
    obtain ⟨t, e⟩ := hall j v (by rw [← Array.getElem?_toList]; exact hj)
    exact ⟨t, by rw [e]; congr 1; omega⟩
  have h2 := h.growAll (W := [(s.heap.objs.size, ils ((List.range n).map (fun (i : Nat) => (i : Int))))]) (t := tk) hk (fun p hp => by
    rw [List.mem_singleton.mp hp]
    refine ⟨Nat.le_refl _, _, hn, acc'.toList, key, c', by simp⟩) (by simp)
  exact k _ _ h2

/-- slices -/
theorem I_slice {value : Expr} {lower upper : Option Expr} {p pos : Pos} {Q : Value → Shared → Prop}
    (k : W prog w A (eval value env) (fun o s₁ => W prog w A (evalPart lower env) (fun vl s₂ => W prog w A (evalPart upper env) (fun vu s₃ =>
      ∃ l ns lo hi L, o = .ref l ∧ St σ G L s₃ ∧ (l, ils ns) ∈ L ∧ ns.length ≤ 1000 ∧ IsPart vl lo ∧ IsPart vu hi ∧ ∃ ms, (∀ vs, IntsAre vs ns → IntsAre (slicePick vs.toArray lo hi none).toList ms) ∧
        ∀ a s', St σ G ((a, ils ms) :: L) s' → Q (.ref a) s') s₂) s₁) s)
    (ht : ∀ o r, letTemporaryGo value o r = pure () := by intro _ _; rfl) : W prog w A (eval (.Subscript value (.Slice lower upper none p) pos) env) Q s := by
  refine wpAny_Subscript_list_slice (W.mono k (fun o s₁ h₁ => W.mono h₁ (fun vl s₂ h₂ => W.mono h₂ (fun vu s₃ h₃ => ?_)))) ht
  obtain ⟨l, ns, lo, hi, L, rfl, h, hl, hz, p1, p2, ms, hms, hq⟩ := h₃
  obtain ⟨vs, n, hv, h1⟩ := h.ilist hl
  refine ⟨l, vs.toArray, lo, hi, rfl, h1.isList, by simpa [hv.length] using sz hz, p1, p2, ?_⟩
  have h2 := (h.push (P := fun _ => True) (o := { cls := .type "slice", data := .fields #[vl, vu, .none] }) (t := s₃.toks) rfl trivial).push (P := ils ms) (o := { cls := .type "list", data := .seq (slicePick vs.toArray lo hi none) }) (t := s₃.toks) rfl ⟨_, hms vs hv, 0, by simp⟩
  have h3 := h2.pick (E := [_, _]) (R := L) [0]
  rw [Heap.size_push] at h3
  exact hq _ _ h3
theorem pick_from {vs : List Value} {ns : List Int} (a : Nat) (ha : a ≤ ns.length) (hv : IntsAre vs ns) : IntsAre (slicePick vs.toArray (some (a : Int)) none none).toList (ns.drop a) := by
  rw [slicePick_from _ _ (by simpa [hv.length] using ha)]
  simpa using intsAre_drop hv a
theorem pick_upto {vs : List Value} {ns : List Int} (b : Nat) (hb : b ≤ ns.length) (hv : IntsAre vs ns) : IntsAre (slicePick vs.toArray none (some (b : Int)) none).toList (ns.take b) := by
  rw [slicePick_upto _ _ (by simpa [hv.length] using hb)]
  simpa using intsAre_take hv b
theorem pick_run {vs : List Value} {ns : List Int} (a b : Nat) (hb : b ≤ ns.length) (hab : a ≤ b) (hv : IntsAre vs ns) : IntsAre (slicePick vs.toArray (some (a : Int)) (some (b : Int)) none).toList ((ns.drop a).take (b - a)) := by
  rw [slicePick_run _ _ _ (by simpa [hv.length] using hb) hab]
  simpa using intsAre_take (intsAre_drop hv a) (b - a)

/-- sorted(list) -/
theorem I_sorted {l : Addr} {ns : List Int} {Q : Value → Shared → Prop} (h : St σ G L s) (hl : (l, ils ns) ∈ L) (hz : ns.length ≤ 60) (k : ∀ a ns' s', ns'.Perm ns → ns'.Pairwise (· ≤ ·) → St σ G ((a, ils ns') :: L) s' → Q (.ref a) s') : W prog w A (call (.builtin "sorted") [.ref l]) Q s := by
  obtain ⟨vs, n, hv, h1⟩ := h.ilist hl
  refine sorted_ints h1.isList hv (by rw [hv.length]; omega) (fun out ns' a1 a2 a3 => ?_)
  obtain ⟨e, he⟩ := sortedAll_at s.heap vs out
  refine k _ ns' _ a2 a3 (h.growAll (W := [(s.heap.objs.size + 1, ils ns')]) (t := s.toks) (fun _ _ => sortedAll_old) (fun p hp => ?_) (by simp))
  rw [List.mem_singleton.mp hp]
  exact ⟨Nat.le_succ _, _, he, out.toList, a1, e, by simp [seqObj]⟩

theorem I_sort {l : Addr} {vs : List Value} {ns : List Int} {Q : Value → Shared → Prop} (h : St σ G ((l, lst vs) :: L) s) (hv : IntsAre vs ns) (hz : ns.length ≤ 60) (k : ∀ ns' s', ns'.Perm ns → ns'.Pairwise (· ≤ ·) → St σ G ((l, ils ns') :: L) s' → Q .none s') : W prog w A (call (.builtin "list.sort") [.ref l]) Q s := by
  obtain ⟨n, hl⟩ := h.isL (.head _)
  have hlt := Heap.lt_size hl
  refine wpAny_call_entry PyProof.Rows.slot_list_sort ⟨_, hl, rfl⟩ PyProof.Rows.entry_list_sort (list_sort_tree (n := n) (vs := vs) hl hv (by rw [hv.length]; omega) fun out ns' a1 a2 a3 => ⟨.none, rfl, ?_⟩) (PyProof.Rows.args_list_sort _)
  obtain ⟨e, he⟩ := sortedHeap_at (out := out) hl
  have h1 : St σ G L _ := h.lose (W := [(l, lst vs)]) (t := s.toks) (h' := sortedHeap s.heap l vs out) (fun b o hb e => (sortedHeap_old (fun q => hb (by simp [q])) (Heap.lt_size e)).trans e)
  refine k ns' _ a2 a3 ⟨h1.gens, h1.drawn, h1.os, h1.keep, fun p hp => ?_, h.nd, fun p hp => ?_⟩
  · rcases List.mem_cons.mp hp with rfl | hp
    · exact ⟨_, he, out.toList, a1, e, by simp [seqObj]⟩
    · exact h1.live p hp
  · rcases List.mem_cons.mp hp with rfl | hp
    · exact h.off (l, lst vs) (.head _)
    · exact h.off p (.tail _ hp)
end
end Mine

namespace Mine
open PySem PySem.W PySem.Calls PyProof.Rows Builtin Builtin.ObjectAttr

section
variable {prog : Program} {w : World} {A : Around} {σ s : Shared} {G : Array GenState → Prop} {L L' : List Cell} {env : Env} {d : Addr} {kvs : List (Int × Value)} {K : Frag} {x C dx : Addr} {l : List (Str × Value)} {name : Str}

theorem ints_of_keys {kvs : List (Int × Value)} : ∀ (vs : List Value) (b : Nat), vs.length + b = kvs.length → (∀ j v, vs[j]? = some v → ∃ k x, kvs[b + j]? = some (k, x) ∧ (PySem.intKind prog w).is k v = true) → IntsAre vs ((kvs.drop b).map (·.1)) := by
  intro vs
  induction vs with
  | nil =>
    intro b hb _
    rw [List.drop_eq_nil_of_le (by simp at hb; omega)]
    exact IntsAre.nil
  | cons v r ih =>
    intro b hb hv
    obtain ⟨k, x, hk, hi⟩ := hv 0 v rfl
    have hlt : b < kvs.length := by rw [List.length_cons] at hb; omega
    have e : kvs[b] = (k, x) := by
      have := List.getElem?_eq_getElem hlt
      rw [Nat.add_zero, this] at hk
      exact Option.some.inj hk
    have hvk : ∃ t, v = Value.int k t := by
      have hi : Value.isInt k v = true := hi
      cases v <;> simp_all [Value.isInt]
    obtain ⟨t, rfl⟩ := hvk
    rw [List.drop_eq_getElem_cons hlt, List.map_cons, e]
    refine .cons _ _ (ih (b + 1) (by rw [List.length_cons] at hb; omega) (fun j u hj => ?_))
    obtain ⟨k', x', h1, h2⟩ := hv (j + 1) u (by simpa using hj)
    exact ⟨k', x', by rw [show b + 1 + j = b + (j + 1) by omega]; exact h1, h2⟩

/-- sorted(dict) -/
theorem D_sorted {Q : Value → Shared → Prop} (hA : A.handled = none) (h : St σ G L s) (hd : (d, dct prog w kvs) ∈ L) (hz : kvs.length ≤ 60) (k : ∀ a ns' s', ns'.Perm (kvs.map (·.1)) → ns'.Pairwise (· ≤ ·) → St σ G ((a, ils ns') :: L) s' → Q (.ref a) s') : W prog w A (call (.builtin "sorted") [.ref d]) Q s := by
  obtain ⟨h1, h2⟩ := h.dof hd
  obtain ⟨ep, hat⟩ := h1.dictAt
  refine call_function_entry kind_sorted plain_sorted entry_sorted (args_sorted1 _) ?_
  unfold Builtin.«sorted»
  refine wpAny_bind (m := checkCount "sorted" 1 1 _) (wpAny_pure ?_)
  refine wpAny_bind (kdu_collect (A := A.in1) (kdl_dict (knd := PySem.intKind prog w) (kvs := kvs) (ep := ep) h2) hA hat (sz (by omega)) fun h' tk acc hk hacc => ?_)
  obtain ⟨hl, hall⟩ := hacc
  have hI : IntsAre acc.toList (kvs.map (·.1)) := by
    have := ints_of_keys (prog := prog) (w := w) (kvs := kvs) acc.toList 0 (by rw [Array.length_toList]; exact hl) (fun j v hj => by
      rw [Nat.zero_add]
      exact hall j v (by rw [← Array.getElem?_toList]; exact hj))
    simpa using this
  have hS := h.keeps (t := tk) hk
  refine wpAny_bind (T_newList hS (fun a s' h' => ?_) (by rw [Array.length_toList, hl]; omega))
  refine wpAny_bind (wpAny_holding (I_sort (A := A.in1) h' hI (by rw [List.length_map]; omega) (fun ns' s'' p1 p2 h'' => ?_)))
  exact wpAny_pure ⟨_, rfl, k _ _ _ p1 p2 h''⟩

-- IS
theorem T_isNone {v : Value} {Q : Value → Shared → Prop} (k : Q (.bool (v == .none)) s) : W prog w A (compareOp .Is v .none) Q s := by
  show W prog w A (do return .bool (← isSame v .none)) Q s
  rw [isSame_none]
  exact wpAny_bind (wpAny_pure (wpAny_pure k))
theorem T_isNotNone {v : Value} {Q : Value → Shared → Prop} (k : Q (.bool (!(v == .none))) s) : W prog w A (compareOp .IsNot v .none) Q s := by
  show W prog w A (do return .bool (!(← isSame v .none))) Q s
  rw [isSame_none]
  exact wpAny_bind (wpAny_pure (wpAny_pure k))

-- INSTANCES
theorem N_contains {f : Addr} {v : Value} {Q : Bool → Shared → Prop} (X : K.In σ.heap) (hs : findIn K (.ref C) "__contains__" = some (some (.ref f))) (hf : isFn K (.ref f) = true) (h : St σ G L s) (hx : (x, ins C dx) ∈ L) (hd : (dx, sd prog w l) ∈ L)
    (k : CallF prog w A σ f [.ref x, v] (fun r s' => W prog w A (truthy r) Q s') s) : W prog w A (contains (.ref x) v) Q s := by
  obtain ⟨od, hsd, hod, I⟩ := h.inst hx hd
  have XK := X.keeps h.keep
  unfold contains
  refine wpAny_holding (wpAny_bind (wpAny_bind (I.type.here ((looks_findIn XK hs).here ?_))))
  rw [if_neg (by simp)]
  exact wpAny_bind (unlessNone_K XK I hs hf (CallF.run k))
theorem N_notIn {f : Addr} {v : Value} {Q : Value → Shared → Prop} (X : K.In σ.heap) (hs : findIn K (.ref C) "__contains__" = some (some (.ref f))) (hf : isFn K (.ref f) = true) (h : St σ G L s) (hx : (x, ins C dx) ∈ L) (hd : (dx, sd prog w l) ∈ L)
    (k : CallF prog w A σ f [.ref x, v] (fun r s' => W prog w A (truthy r) (fun b s'' => Q (.bool (!b)) s'') s') s) : W prog w A (compareOp .NotIn v (.ref x)) Q s :=
  wpAny_bind (N_contains X hs hf h hx hd (by
    refine ⟨k.1, codeAny_mono k.2 (fun r s' z => ?_)⟩
    rcases r with e | (v | _ | _ | _) <;> first | exact z.elim | exact wpAny_mono z (fun _ _ z => wpAny_pure z) fun _ _ z => z))
/-- a call of an object -/
theorem N_call0 {f : Addr} {pos : Pos} {Q : Value → Shared → Prop} (X : K.In σ.heap) (hs : findIn K (.ref C) "__call__" = some (some (.ref f))) (hf : isFn K (.ref f) = true) (hfn : fnIn K f = true) (h : St σ G L s) (hx : (x, ins C dx) ∈ L) (hd : (dx, sd prog w l) ∈ L)
    (k : CallF prog w A σ f [.ref x] Q s) : W prog w A (callWith pos (.ref x) [] (backTo pos (starEach [] env)) []) Q s := by
  obtain ⟨od, hsd, hod, I⟩ := h.inst hx hd
  have XK := X.keeps h.keep
  refine kco_callWith0 XK I rfl hs (wpAny_call (kco_code XK I rfl hs hf hfn ?_))
  exact codeAny_mono k.2 (fun r s' z => by rcases r with e | (v | _ | _ | _) <;> exact z)
theorem wpAny_pyIter_own {f : Addr} {Q : Value → Shared → Prop} (X : K.In σ.heap) (hs : findIn K (.ref C) "__iter__" = some (some (.ref f))) (hf : isFn K (.ref f) = true) (h : St σ G L s) (hx : (x, ins C dx) ∈ L) (hd : (dx, sd prog w l) ∈ L)
    (k : CallF prog w A σ f [.ref x] (fun it s' => W prog w A (specialOf it "__next__") (fun r s₂ => match r with | none => False | some _ => Q it s₂) s') s) : W prog w A (pyIter (.ref x)) Q s := by
  obtain ⟨od, hsd, hod, I⟩ := h.inst hx hd
  have XK := X.keeps h.keep
  have fin : W prog w A (call (.ref f) [.ref x] >>= fun v => pure (some v)) (fun r s' => ∃ v, r = some v ∧ W prog w A (specialOf v "__next__") (fun r s₂ => match r with | none => False | some _ => Q v s₂) s') s :=
    wpAny_bind (W.mono (CallF.run k) (fun v s' h' => wpAny_pure ⟨v, rfl, h'⟩))
  have one : ∀ refuse : Sem Value, W prog w A (callSpecialIfBoundUnlessNone? (.ref x) "__iter__" refuse) (fun r s' => ∃ v, r = some v ∧ W prog w A (specialOf v "__next__") (fun r s₂ => match r with | none => False | some _ => Q v s₂) s') s := by
    intro refuse
    simp only [callSpecialIfBoundUnlessNone?, bindSpecialIfBound?]
    refine wpAny_holding (wpAny_bind (wpAny_bind (wpAny_bind (I.type.here ((looks_findIn XK hs).here ?_)))))
    refine wpAny_bind (wpAny_askSetting (wpAny_ite ?_))
    have fin2 : W prog w A (if (Value.ref f == Value.none) = true then (refuse >>= fun v => pure (some v)) else (call (.ref f) [.ref x] >>= fun v => pure (some v))) (fun r s' => ∃ v, r = some v ∧ W prog w A (specialOf v "__next__") (fun r s₂ => match r with | none => False | some _ => Q v s₂) s') s := by
      rw [if_neg (show ¬ ((Value.ref f == Value.none) = true) from Bool.false_ne_true)]
      exact fin
    split
    · exact wpAny_bind ((bind_fn XK _ (beq_iff_eq.mp hf)).here (wpAny_pure (by exact fin2)))
    · exact wpAny_tryCatch (wpAny_bind ((bind_fn XK _ (beq_iff_eq.mp hf)).here (wpAny_pure (by exact wpAny_mono fin2 (fun _ _ z => z) fun _ _ z => z.elim))))
  unfold pyIter
  refine wpAny_bind (wpAny_bind (I.type.here ((looks_findIn XK hs).here ?_)))
  show W prog w A (callSpecialIfBoundUnlessNone? (.ref x) "__iter__" _ >>= _) Q s
  refine wpAny_bind (W.mono (one _) (fun r s' hr => ?_))
  obtain ⟨v, rfl, hv⟩ := hr
  refine wpAny_bind (W.mono hv (fun r s₂ hr => ?_))
  cases r with
  | none => exact hr.elim
  | some g => exact wpAny_pure hr

theorem getBy_found {od : Option Obj} {ox : Obj} {t : Tok} {Q : Value → Shared → Prop} {v : Value} (X : K.In s.heap) (I : InstAt s.heap x ox C od) (hga : findIn K (.ref C) "__getattribute__" = some (some (.builtin "object.__getattribute__")))
    (hf : findObj K C od name = some (.value v)) (hh : handedIn v = true) (h : Q v s) : W prog w A (getAttrBy (.ref x) (.str name t) false) Q s := by
  obtain ⟨hp, g, d, tk, os⟩ := s
  have L0 := I.type (M := model prog w)
  have L1 := looks_findIn (M := model prog w) X hga
  have L2 := looks_find (M := model prog w) X I hf
  unfold getAttrBy
  refine wpAny_holding (wpAny_bind (L0.at (wpAny_bind (L1.at ?_))))
  show wpAny _ _ (getAttrEveryday _ _ _) _ _ _
  refine wpAny_bind (wpAny_onRaise (wpAny_runValue (codeAny_builtin PySem.F.plainObj_entry_getattr_hooked ?_)))
  refine wpAny_bind (wpAny_pure (wpAny_bind (L0.at (wpAny_bind (L2.at ?_)))))
  refine wpAny_pure ?_
  show wpAny _ _ (handedOut v) _ _ _
  rw [handedOut_of hh]; exact wpAny_pure h

theorem entry_hasattr : entryFor table "hasattr" = some Builtin.«hasattr» := entryFor_of_fast (by kernel_rfl)
theorem args_hasattr (a b : Value) : argsOk "hasattr" ⟨[a, b], []⟩ := by unfold argsOk; kernel_rfl
/-- hasattr(object, a name that its own dict bears) -/
theorem N_hasattr {attr get : Option Value} {v : Value} {t : Tok} {Q : Value → Shared → Prop} (X : K.In σ.heap) (hC : Cls K C) (hf : clsFind K C name = some (attr, get, false)) (h : St σ G L s) (hx : (x, ins C dx) ∈ L) (hd : (dx, sd prog w l) ∈ L) (hv : l.lookup name = some v) (hh : handedIn v = true)
    (hm : mroIn K C (.type "module") = some false) (k : Q (.bool true) s) : W prog w A (call (.builtin "hasattr") [.ref x, .str name t]) Q s := by
  obtain ⟨od, hsd, hod, I⟩ := h.inst hx hd
  have XK := X.keeps h.keep
  refine call_function_entry (by decide +kernel) (by decide +kernel) entry_hasattr (args_hasattr _ _) ?_
  unfold Builtin.«hasattr»
  refine wpAny_bind (m := someArgs "hasattr" 2 2 _) (wpAny_of_eq (a := [Value.ref x, .str name t]) (by first | rfl | kernel_rfl!) ?_)
  refine wpAny_bind (wpAny_pure ?_)
  rw [if_neg (by simp)]
  refine wpAny_bind (I.type.here ?_)
  dsimp only
  refine wpAny_bind ?_
  refine wpAny_bind (wpAny_pure ?_)
  dsimp only
  have Li : Looks (model prog w) s.heap (isInstance (.ref x) (.type "module")) false := I.type.andThen (looks_mroIn XK hm)
  refine wpAny_bind (Li.here ?_)
  refine wpAny_pure ?_
  rw [if_neg (by decide)]
  refine wpAny_bind ?_
  unfold getAttrBy?
  refine wpAny_bind (wpAny_attempt (W.any (getBy_found XK I hC.getattribute (clsFind_own hf (by rw [sd_look hsd, hv])) hh ?_)))
  exact wpAny_pure (wpAny_pure ⟨_, rfl, k⟩)
end
end Mine

namespace Mine
open PySem PySem.W PySem.Calls PyProof.Rows

-- STATES OF GENERATORS
def GS (F : Nat → GenState → Prop) (ex : List Nat) : Array GenState → Prop := fun gens => (∀ j x, gens[j]? = some x → F j x) ∧ ∀ j ∈ ex, j < gens.size
def upF (F : Nat → GenState → Prop) (g : Nat) (P : GenState → Prop) : Nat → GenState → Prop := fun j x => if j = g then P x else F j x
theorem GS.set {F : Nat → GenState → Prop} {ex : List Nat} {g : Nat} {P P' : GenState → Prop} {gens : Array GenState} {y : GenState} (h : GS (upF F g P) (g :: ex) gens) (hy : P' y) : GS (upF F g P') (g :: ex) (gens.setIfInBounds g y) := by
  refine ⟨fun j x hj => ?_, fun j hj => by rw [Array.size_setIfInBounds]; exact h.2 j hj⟩
  rw [Array.getElem?_setIfInBounds] at hj
  unfold upF
  by_cases e : g = j
  · subst e
    rw [if_pos rfl] at hj ⊢
    rw [if_pos (h.2 g (.head _))] at hj
    cases hj; exact hy
  · rw [if_neg e] at hj
    rw [if_neg (fun q => e q.symm)]
    have := h.1 j x hj
    unfold upF at this
    rwa [if_neg (fun q => e q.symm)] at this
theorem GS.push {F : Nat → GenState → Prop} {ex : List Nat} {P : GenState → Prop} {gens : Array GenState} {y : GenState} (h : GS F ex gens) (hy : P y) : GS (upF F gens.size P) (gens.size :: ex) (gens.push y) := by
  refine ⟨fun j x hj => ?_, fun j hj => ?_⟩
  · rw [Array.getElem?_push] at hj
    unfold upF
    by_cases e : j = gens.size
    · rw [if_pos e] at hj ⊢; cases hj; exact hy
    · rw [if_neg e] at hj ⊢; exact h.1 j x hj
  · rw [Array.size_push]
    rcases List.mem_cons.mp hj with rfl | hj
    · exact Nat.lt_succ_self _
    · exact Nat.lt_succ_of_lt (h.2 j hj)
theorem GS.get {F : Nat → GenState → Prop} {ex : List Nat} {g : Nat} {P : GenState → Prop} {gens : Array GenState} (h : GS (upF F g P) (g :: ex) gens) : ∃ x, gens[g]? = some x ∧ P x := by
  have hlt := h.2 g (.head _)
  refine ⟨gens[g], Array.getElem?_eq_getElem hlt, ?_⟩
  have := h.1 g gens[g] (Array.getElem?_eq_getElem hlt)
  unfold upF at this
  rwa [if_pos rfl] at this
theorem GS.drop {F : Nat → GenState → Prop} {ex : List Nat} {g : Nat} {P : GenState → Prop} {gens : Array GenState} (h : GS (upF F g P) (g :: ex) gens) (hP : ∀ x, P x → F g x) : GS F ex gens := by
  refine ⟨fun j x hj => ?_, fun j hj => h.2 j (.tail _ hj)⟩
  have := h.1 j x hj
  unfold upF at this
  by_cases e : j = g
  · rw [if_pos e] at this; rw [e]; exact hP x this
  · rwa [if_neg e] at this

/-- one stretch of a generator's run: from here to its next yield or its end -/
def SegZ (M : Model) (A : Around) (Z : End → Shared → Prop) (c : Code) (t : Sem Fin) (fs : List Frame) (s : Shared) : Prop :=
  ∀ Γ p, Γ.code = c → Γ.Woken A → ∃ e s', Runs M Γ p t fs s e s' ∧ Z e s'
def GoesZ (M : Model) (A : Around) (Z : End → Shared → Prop) (gs : GenState) (s : Shared) : Prop :=
  match gs with
  | .fresh c => SegZ M A Z c (M.den c) [] s
  | .suspended k _ c _ fs _ => SegZ M A Z c (k (.send .none)) fs s
  | _ => False

section
variable {M : Model} {A : Around} {Z : End → Shared → Prop} {c : Code} {fs : List Frame} {s : Shared}
theorem z_wrap {α : Type} {m : Sem α} {K : α → Sem Fin} {H : Value → Sem Fin} {gd lv}
    (h : wpAny M (A.over c fs) m (fun a s' => SegZ M A Z c (K a) fs s') (fun _ _ => False) s) : SegZ M A Z c (m.wrap K H gd lv) fs s := by
  rintro Γ p rfl hΓ
  exact runs_wrap_of_wp K H gd lv m (h (Γ.over fs) p (hΓ.over fs)) (fun a p' s' h' => h' Γ p' rfl hΓ) (fun x p' s' h' => h'.elim)
theorem z_bindw {α β : Type} {m : Sem α} {K : α → Sem β} {K' : β → Sem Fin} {H' : Value → Sem Fin} {gd lv}
    (h : wpAny M (A.over c fs) m (fun a s' => SegZ M A Z c ((K a).wrap K' H' gd lv) fs s') (fun _ _ => False) s) : SegZ M A Z c ((m >>= K).wrap K' H' gd lv) fs s := by
  rw [Sem.bind_eq_wrap', Sem.wrap_wrap]; exact z_wrap h
theorem z_at {p' : Pos} {k : Unit → Sem Fin} (h : SegZ M A Z c (k ()) fs s) : SegZ M A Z c (.at p' k) fs s :=
  z_wrap (m := standAt p') (K := k) (H := .raise) (gd := id) (lv := id) (wpAny_standAt h)
theorem z_point {l : List Value} {k : Unit → Sem Fin} (h : SegZ M A Z c (k ()) fs s) : SegZ M A Z c (.point l k) fs s :=
  z_wrap (m := point) (K := k) (H := .raise) (gd := id) (lv := fun _ => l) (wpAny_point h)
theorem z_call {c' : Code} {h g l} {k : Result → Sem Fin} (hc : ∀ p, SegZ M A Z c' (M.den c') (.ret k h g l c p [] :: fs) s) : SegZ M A Z c (.call c' h g l k) fs s := by
  rintro Γ p rfl hΓ
  obtain ⟨e, s', hr, he⟩ := hc p (Γ.goto c') p rfl (hΓ.goto c')
  exact ⟨e, s', runs_call_seg hr, he⟩
theorem z_leaf {k h g l c₁ p₁ kp} (r : Result) (hk : SegZ M A Z c₁ (k r) fs s) : SegZ M A Z c (leafOf r) (.ret k h g l c₁ p₁ kp :: fs) s := by
  rintro Γ p rfl hΓ
  obtain ⟨e, s', hr, he⟩ := hk (Γ.goto c₁) p₁ rfl (hΓ.goto c₁)
  exact ⟨e, s', Runs.pop r hr, he⟩
theorem z_again {c' : Code} (hq : c'.quiet = true) (hc : SegZ M A Z c' (M.den c') fs s) : SegZ M A Z c (.pure (.again c')) fs s := by
  rintro Γ p rfl hΓ
  obtain ⟨e, s', hr, he⟩ := hc (Γ.goto c') p rfl (hΓ.goto c')
  exact ⟨e, s', Runs.head (c₁ := c') (fun _ _ x => .again hq x) hr, he⟩
theorem z_end {f : Flow} (h : Z (.ret (.ok f)) s) : SegZ M A Z c (.pure (.done f)) [] s := by
  rintro Γ p rfl _
  exact ⟨.ret (.ok f), s, Runs.leaf (.ok f), h⟩
theorem z_yield {v : Value} {g : Bool} {l : List Value} {k : Resume → Sem Fin} (hfs : splitAtGen fs = none) (h : ∀ p, Z (.susp v g l k c p fs) s) : SegZ M A Z c (.yield v g l k) fs s := by
  rintro Γ p rfl _
  exact ⟨_, s, Runs.yield' fs hfs, h p⟩
theorem wpAny_resumeZ {E : Value → Shared → Prop} {g : Nat} {gs : GenState} {l : List Value} {α : Type} {k : GenResult → Sem α} {Q : α → Shared → Prop} (hg : s.gens[g]? = some gs)
    (hgo : GoesZ M A Z gs (s.setGen g .running))
    (hZ : ∀ e s₁, Z e s₁ → e.quiet = true ∧ wpAny M A (k e.result) Q E (s₁.setGen g e.genState)) : wpAny M A (.resume g (.send .none) l k) Q E s := by
  intro Γ p hΓ
  rw [Sem.wp_resume]
  have hB : ∀ c, (Γ.wake c p).Woken A := fun c => hΓ.wake c p
  cases gs with
  | fresh c =>
    obtain ⟨e₁, s₁, hr, he⟩ := hgo (Γ.wake c p) p rfl (hB c)
    exact ⟨_, _, by unfold Wakes; rw [hg]; exact ⟨e₁, s₁, hr, (hZ e₁ s₁ he).1, rfl, rfl⟩, (hZ e₁ s₁ he).2 Γ p hΓ⟩
  | suspended k₀ l₀ c₀ p₀ fs₀ cl =>
    obtain ⟨e₁, s₁, hr, he⟩ := hgo (Γ.wake c₀ p) p₀ rfl (hB c₀)
    exact ⟨_, _, by unfold Wakes; rw [hg]; exact ⟨e₁, s₁, hr, (hZ e₁ s₁ he).1, rfl, rfl⟩, (hZ e₁ s₁ he).2 Γ p hΓ⟩
  | running => exact hgo.elim
  | finished => exact hgo.elim
end

section
variable {prog : Program} {w : World} {A : Around} {σ s s₀ s₁ : Shared} {G G' : Array GenState → Prop} {L L' : List Cell} {env : Env}

theorem St.regen {gens' : Array GenState} (h : St σ G L s) (hG : G' gens') : St σ G' L { s with gens := gens' } := ⟨hG, h.drawn, h.os, h.keep, h.live, h.nd, h.off⟩

theorem wpAny_pyNextZ {E : Value → Shared → Prop} {a : Addr} {g : Nat} {gs : GenState} {Z : End → Shared → Prop} {Q : Option Value → Shared → Prop} (hh : A.handled = none)
    (hl : s.heap.NoLimit) (hroom : A.depth < recursionLimit) (hg : s.heap.IsGen a g) (hgs : s.gens[g]? = some gs)
    (hgo : GoesZ (model prog w) A.in1 Z gs (s.setGen g .running))
    (hZ : ∀ e s₁, Z e s₁ → e.quiet = true ∧ match e with
      | .ret r => r = .ok (.ret .none) ∧ ∀ h', (∀ b o, s₁.heap.get? b = some o → h'.get? b = some o) → Q none { s₁.setGen g .finished with heap := h' }
      | .susp v .. => Q (some v) (s₁.setGen g e.genState)) : wpAny (model prog w) A (pyNext (.ref a)) Q E s := by
  unfold pyNext
  refine wpAny_bind (wpAny_attempt (wpAny_callSpecial?_slot (name := Str.ofString "__next__") hg.typeIs slot_gen_next
    (wpAny_call_entry slot_gen_next hg.typeIs entry_gen_next ?_ (args_gen_next _))))
  show wpAny _ _ (Builtin.Generator.genWake (.ref a) (.send .none)) _ _ s
  unfold Builtin.Generator.genWake
  refine wpAny_bind (wpAny_holding (wpAny_genNumber hg (wpAny_bind (wpAny_genState hgs ?_))))
  cases gs with
  | running => exact hgo.elim
  | finished => exact hgo.elim
  | _ =>
    refine wpAny_bind (wpAny_roomToWake hl hroom ?_)
    show wpAny _ _ (.resume g (.send .none) [] _) _ _ s
    refine wpAny_resumeZ hgs hgo (fun e s₁ he => ?_)
    have hz := hZ e s₁ he
    refine ⟨hz.1, ?_⟩
    cases e with
    | ret r =>
      obtain ⟨_, rfl, hp⟩ := hz
      show wpAny _ _ (newExc (.type "StopIteration") [] >>= _) _ _ _
      refine wpAny_bind ?_
      simp only [newExc, newTuple]
      refine wpAny_bind (wpAny_newObj_type ?_ (by size_fits))
      refine wpAny_bind (m := firstArgMember _ _) (wpAny_of_eq (a := Value.none) (by first | rfl | (simp only [firstArgMember]; rfl)) ?_)
      refine wpAny_newObj_type ?_ (by size_fits)
      simp only [raiseNew]
      refine wpAny_bind (wpAny_bind (wpAny_handled ?_))
      rw [show A.in1.handled = none from hh]
      refine wpAny_throw ?_
      refine wpAny_bind (wpAny_isInstance (T := "StopIteration") (b := true) ⟨_, Heap.get?_push_size _ rfl, rfl⟩ isSubtype_stop ?_)
      exact wpAny_pure (hp _ fun b o hb => Heap.get?_push_of_some _ (Heap.get?_push_of_some _ hb))
    | susp v g₀ l₀ k₀ c₀ p₀ fs₀ => exact wpAny_pure ⟨v, rfl, wpAny_pure hz.2⟩

/-- a generator that will yield m more values; X is what it holds -/
def GoodZ (prog : Program) (w : World) (A : Around) (σ : Shared) (Gr : Array GenState → Prop) (N : Nat) (D : List Cell → Prop) (I : Nat → List Cell → Prop) (V : Nat → Value → List Cell → Prop) : Nat → List Cell → GenState → Prop
  | 0, X, gs => ∀ s L, St σ Gr (X ++ L) s → GoesZ (model prog w) A (fun e s' => e = .ret (.ok (.ret .none)) ∧ ∃ X', D X' ∧ St σ Gr (X' ++ L) s') gs s
  | m + 1, X, gs => ∀ s L, St σ Gr (X ++ L) s → GoesZ (model prog w) A (fun e s' => ∃ v g l k c p fs W X', e = .susp v g l k c p fs ∧ e.quiet = true ∧ V (N - (m + 1)) v W ∧ I (N - m) X' ∧ St σ Gr (X' ++ (W ++ L)) s' ∧ GoodZ prog w A σ Gr N D I V m X' e.genState) gs s

def gob (g : Nat) : Pr := fun o => ∃ nm qn, o.cls = .type "generator" ∧ o.data = .fields #[.int g 0, nm, qn] ∧ o.slots = #[]
theorem letOwned_gen {tg : Expr} {a : Addr} {g : Nat} {v : Value} {Q : Unit → Shared → Prop} (h : St σ G L s) (ha : (a, gob g) ∈ L) (k : Q () s) (htg : ∃ elts c p, tg = .Tuple elts c p ∨ ∃ x, tg = .Name x p) : W prog w A (letOwnedTupleGo tg (.ref a) v) Q s := by
  obtain ⟨elts, c, p, rfl | ⟨x, rfl⟩⟩ := htg
  · obtain ⟨o, ho, nm, qn, hc, hd, hs⟩ := h.get ha
    cases v <;> try exact wpAny_pure k
    unfold letOwnedTupleGo
    refine wpAny_bind (wpAny_load ho ?_)
    rw [hc, hd]
    dsimp only
    rw [if_neg (by simp)]
    exact wpAny_pure k
  · exact wpAny_pure k
end
end Mine

namespace Mine
open PySem PySem.W PySem.Calls PyProof.Rows

/-- what a generator hands out: the cells that it lives on are its own affair -/
structure SrcE (prog : Program) (w : World) (A : Around) (σ : Shared) (G : Nat → List Cell → Array GenState → Prop) (Ge : Array GenState → Prop) (it : Value) (tg : Expr) (n : Nat) (D : List Cell → Prop) (I : Nat → List Cell → Prop) (V : Nat → Value → List Cell → Prop) : Prop where
  next : ∀ {i : Nat} {X L : List Cell} {s : Shared} {K : Value → Shared → Prop}, i < n → I i X → St σ (G i X) (X ++ L) s → (∀ v W X' s', V i v W → I (i + 1) X' → St σ (G (i + 1) X') (X' ++ (W ++ L)) s' → K v s') →
    W prog w A (pyNext it) (fun r s₁ => match r with | none => False | some v => W prog w A (letOwnedTupleGo tg it v) (fun _ s₂ => K v s₂) s₁) s
  stop : ∀ {X L : List Cell} {s : Shared} {K : Shared → Prop}, I n X → St σ (G n X) (X ++ L) s → (∀ X' s', D X' → St σ Ge (X' ++ L) s' → K s') → W prog w A (pyNext it) (fun r s₁ => match r with | none => K s₁ | some _ => False) s

section
variable {prog : Program} {w : World} {A : Around} {σ s s₀ s₁ : Shared} {G G' : Array GenState → Prop} {L L' X : List Cell} {env : Env}

theorem SrcE.gen (hA : A.handled = none) (hlim : σ.heap.NoLimit) (hroom : A.depth ≤ 900) (a : Addr) (g : Nat) (F : Nat → GenState → Prop) (ex : List Nat) (hF : F g .finished) (N : Nat) (D : List Cell → Prop) (I : Nat → List Cell → Prop) (V : Nat → Value → List Cell → Prop) (tg : Expr)
    (htg : ∃ elts c p, tg = .Tuple elts c p ∨ ∃ x, tg = .Name x p) :
    SrcE prog w A σ (fun i X => GS (upF F g (GoodZ prog w A.in1 σ (GS (upF F g (· = .running)) (g :: ex)) N D I V (N - i) X.tail)) (g :: ex)) (GS F ex) (.ref a) tg N D (fun i X => ∃ X0, X = (a, gob g) :: X0 ∧ I i X0) V where
  next := fun {i X L s K} hi hI h k => by
    obtain ⟨X0, rfl, hI⟩ := hI
    have hG := h.gens
    obtain ⟨gs, hgs, good⟩ := hG.get
    have h1 : St σ (GS (upF F g (· = .running)) (g :: ex)) (((a, gob g) :: X0) ++ L) (s.setGen g .running) := h.regen (hG.set rfl)
    have h2 : St σ (GS (upF F g (· = .running)) (g :: ex)) (X0 ++ ((a, gob g) :: L)) (s.setGen g .running) := h1.perm List.perm_middle.symm
    have hgen : s.heap.IsGen a g := by
      obtain ⟨o, ho, nm, qn, e1, e2, e3⟩ := h.get (.head _)
      exact ⟨o, nm, qn, ho, e1, e2, e3⟩
    obtain ⟨m, hm⟩ : ∃ m, N - i = m + 1 := ⟨N - i - 1, by omega⟩
    have good : GoodZ prog w A.in1 σ (GS (upF F g (· = .running)) (g :: ex)) N D I V (N - i) X0 gs := good
    rw [hm] at good
    refine wpAny_pyNextZ hA (hlim.keeps h.keep) (Nat.lt_of_le_of_lt hroom (by decide)) hgen hgs (good _ _ h2) (fun e s₁ he => ?_)
    obtain ⟨v, g', l', k', c', p', fs', W, X', rfl, hq, hV, hI', hS, hgood⟩ := he
    refine ⟨hq, ?_⟩
    have e1 : N - (m + 1) = i := by omega
    have e2 : N - m = i + 1 := by omega
    have e3 : N - (i + 1) = m := by omega
    rw [e1] at hV
    rw [e2] at hI'
    have h5 : St σ (GS (upF F g (GoodZ prog w A.in1 σ (GS (upF F g (· = .running)) (g :: ex)) N D I V (N - (i + 1)) ((a, gob g) :: X').tail)) (g :: ex)) (((a, gob g) :: X') ++ (W ++ L)) (s₁.setGen g (End.susp v g' l' k' c' p' fs').genState) := by
      refine St.perm (L := X' ++ (W ++ ((a, gob g) :: L))) (hS.regen ?_) ?_
      · rw [e3]
        exact hS.gens.set hgood
      · rw [← List.append_assoc, ← List.append_assoc]
        exact List.perm_middle
    exact letOwned_gen h5 (.head _) (k v W _ _ hV ⟨X', rfl, hI'⟩ h5) htg
  stop := fun {X L s K} hI h k => by
    obtain ⟨X0, rfl, hI⟩ := hI
    have hG := h.gens
    obtain ⟨gs, hgs, good⟩ := hG.get
    have h1 : St σ (GS (upF F g (· = .running)) (g :: ex)) (((a, gob g) :: X0) ++ L) (s.setGen g .running) := h.regen (hG.set rfl)
    have h2 : St σ (GS (upF F g (· = .running)) (g :: ex)) (X0 ++ ((a, gob g) :: L)) (s.setGen g .running) := h1.perm List.perm_middle.symm
    have hgen : s.heap.IsGen a g := by
      obtain ⟨o, ho, nm, qn, e1, e2, e3⟩ := h.get (.head _)
      exact ⟨o, nm, qn, ho, e1, e2, e3⟩
    have good : GoodZ prog w A.in1 σ (GS (upF F g (· = .running)) (g :: ex)) N D I V (N - N) X0 gs := good
    rw [Nat.sub_self] at good
    refine wpAny_pyNextZ hA (hlim.keeps h.keep) (Nat.lt_of_le_of_lt hroom (by decide)) hgen hgs (good _ _ h2) (fun e s₁ he => ?_)
    obtain ⟨rfl, X', hD, hS⟩ := he
    refine ⟨rfl, rfl, fun h' hk => k X' _ hD ?_⟩
    have h4 : St σ (GS F ex) (X' ++ ((a, gob g) :: L)) (s₁.setGen g .finished) := hS.regen ((hS.gens.set (P' := (· = .finished)) rfl).drop (fun x e => e ▸ hF))
    have h5 := h4.sub (L' := X' ++ L) ((List.Sublist.refl X').append (List.sublist_cons_self _ _))
    exact h5.keeps (t := s₁.toks) hk

theorem T_compLoopE {e : Expr} {d : Nat} {it acc : Value} {tg : Expr} {ip : Pos} {ifs : List Expr} {inner : Sem Unit} {n : Nat} {D : List Cell → Prop} {I : Nat → List Cell → Prop} {V : Nat → Value → List Cell → Prop} {Gf : Nat → List Cell → Array GenState → Prop} {Ge : Array GenState → Prop} {Q : Shared → Prop}
    (ht : compTurn e d it acc env = turnOf e d it acc env tg ip ifs inner)
    (S : SrcE prog w A σ Gf Ge it tg n D I V) (Inv : Nat → List Cell → Prop) (hX : I 0 X) (h : St σ (Gf 0 X) (X ++ L) s) (h0 : Inv 0 L)
    (turn : ∀ i v W X L' s', i < n → V i v W → Inv i L' → I (i + 1) X → St σ (Gf (i + 1) X) (X ++ (W ++ L')) s' →
      Mine.W prog w A (assign tg env v) (fun _ s₂ => Tests prog w A ifs env (fun ok s₃ =>
        if ok = true then Mine.W prog w A inner (fun _ s₄ => ∃ L'', Inv (i + 1) L'' ∧ St σ (Gf (i + 1) X) (X ++ L'') s₄) s₃ else ∃ L'', Inv (i + 1) L'' ∧ St σ (Gf (i + 1) X) (X ++ L'') s₃) s₂) s')
    (done : ∀ X' L' s', D X' → Inv n L' → St σ Ge (X' ++ L') s' → Q s')
    (hq : (Code.compLoop e d it acc env).quiet = true := by rfl) (hf : (Code.compLoop e d it acc env).isFrame = false := by rfl)
    (hu : A.under (Code.compLoop e d it acc env) = A := by exact Around.under_of_weight rfl) : CL prog w A e d it acc env Q s := by
  refine codeAny_loop hq (fun m s => ∃ i X L', i ≤ n ∧ m = n - i ∧ Inv i L' ∧ I i X ∧ St σ (Gf i X) (X ++ L') s) ?_ n ⟨0, X, L, Nat.zero_le _, rfl, h0, hX, h⟩
  rintro m s ⟨i, X, L', hi, rfl, hI, hX, hS⟩
  rw [hu]
  show wpAny _ A (denote table (.compLoop e d it acc env)) _ _ s
  have hden : denote table (.compLoop e d it acc env) = (compTurn e d it acc env).onRaise (fun x => do noteFrame x env; theTreesLotGoes x) := by
    show (if (Code.compLoop e d it acc env).isFrame = true then _ else _) = _
    rw [hf]; rfl
  rw [hden]
  refine wpAny_noted (noted_elim ?_)
  rw [ht]
  unfold turnOf
  refine wpAny_bind (wpAny_standAt (wpAny_bind ?_))
  rcases Nat.lt_or_eq_of_le hi with hlt | rfl
  · refine W.mono (S.next (K := fun v s₂ => ∃ X, I (i + 1) X ∧ W prog w A (assign tg env v) (fun _ s₂ => Tests prog w A ifs env (fun ok s₃ =>
        if ok = true then W prog w A inner (fun _ s₄ => ∃ L'', Inv (i + 1) L'' ∧ St σ (Gf (i + 1) X) (X ++ L'') s₄) s₃ else ∃ L'', Inv (i + 1) L'' ∧ St σ (Gf (i + 1) X) (X ++ L'') s₃) s₂) s₂) hlt hX hS (fun v W X' s' hV hX' hS' => ⟨X', hX', turn i v W X' L' s' hlt hV hI hX' hS'⟩)) (fun r s₁ hr => ?_)
    cases r with
    | none => exact hr.elim
    | some v =>
      refine wpAny_bind (W.mono hr (fun _ s₂ h₂ => ?_))
      obtain ⟨X', hX', h₂⟩ := h₂
      refine wpAny_bind (W.mono h₂ (fun _ s₃ h₃ => wpAny_bind (W.mono h₃ (fun ok s₄ h₄ => ?_))))
      cases ok with
      | true =>
        refine wpAny_bind (W.mono h₄ (fun _ s₅ h₅ => ?_))
        obtain ⟨L'', q1, q2⟩ := h₅
        exact wpAny_pure ⟨rfl, n - (i + 1), by omega, i + 1, X', L'', hlt, rfl, q1, hX', q2⟩
      | false =>
        obtain ⟨L'', q1, q2⟩ := h₄
        exact wpAny_pure ⟨rfl, n - (i + 1), by omega, i + 1, X', L'', hlt, rfl, q1, hX', q2⟩
  · refine W.mono (S.stop (K := fun s₁ => Q s₁) hX hS (fun X' s' hD hS' => done X' L' s' hD hI hS')) (fun r s₁ hr => ?_)
    cases r with
    | none => exact wpAny_pure hr
    | some v => exact hr.elim
end
end Mine

namespace Mine
open PySem PySem.W PySem.Calls PyProof.Rows

def noted (env : Env) (e : Value) : Sem Fin := (do noteFrame e env; theTreesLotGoes e : Sem Unit).wrap (fun _ => .raise e) .raise id id
def forK (tg : Expr) (it : Value) (body : List Stmt) (env : Env) : Flow → Sem Fin
  | .next | .cont => .pure (.again (.forLoop tg it body [] env))
  | .brk => .pure (.done .next)
  | .ret v => .pure (.done (.ret v))
def whileK (test : Expr) (body : List Stmt) (env : Env) : Flow → Sem Fin
  | .next | .cont => .pure (.again (.whileLoop test body [] env))
  | .brk => .pure (.done .next)
  | .ret v => .pure (.done (.ret v))
def ownBack (env : Env) (K : Flow → Sem Fin) (H : Value → Sem Fin) (gd : Bool → Bool) (lv : List Value → List Value) (r : Result) : Sem Fin :=
  ((match r with | .ok f => (.pure f : Sem Flow) | .error e => .raise e).onRaise fun (x : Value) => do
        if (← field x 1) == Value.none then unsupported "frame.own-activation:exception-without-traceback"
        setFlight x env.frame).wrap K H gd lv
def seqK (rest : List Stmt) (env : Env) (K : Flow → Sem Fin) (H : Value → Sem Fin) (gd : Bool → Bool) (lv : List Value → List Value) : Flow → Sem Fin
  | .next => (execs rest env).wrap K H gd lv
  | f => K f
def funK : Flow → Sem Fin := fun f => .pure (.done (.ret (retV f)))
def funH (env : Env) (e : Value) : Sem Fin := (leaving env e).wrap (fun _ => .raise e) .raise id id

section
variable {prog : Program} {w : World} {A : Around} {σ s s₀ s₁ : Shared} {G G' : Array GenState → Prop} {L L' X : List Cell} {env : Env}
variable {Z : End → Shared → Prop} {c : Code} {fs : List Frame} {K : Flow → Sem Fin} {H : Value → Sem Fin} {gd : Bool → Bool} {lv : List Value → List Value}

theorem z_cons {st : Stmt} {rest : List Stmt} (k : SegZ (model prog w) A Z c ((exec st env).wrap (seqK rest env K H gd lv) H gd lv) fs s) :
    SegZ (model prog w) A Z c ((execs (st :: rest) env).wrap K H gd lv) fs s := by
  rw [execs_cons_wrap]
  refine Eq.mpr (congrArg (fun t => SegZ (model prog w) A Z c t fs s) ?_) k
  exact Sem.wrap_congr _ _ _ (fun f => by cases f <;> rfl) (fun e => rfl)
/-- a statement without a yield -/
theorem z_st {st : Stmt} {rest : List Stmt}
    (k : W prog w (A.over c fs) (exec st env) (fun f s' => SegZ (model prog w) A Z c (seqK rest env K H gd lv f) fs s') s) : SegZ (model prog w) A Z c ((execs (st :: rest) env).wrap K H gd lv) fs s := z_cons (z_wrap k)
theorem z_nil (k : SegZ (model prog w) A Z c (K .next) fs s) : SegZ (model prog w) A Z c ((execs [] env).wrap K H gd lv) fs s := k
theorem z_if {test : Expr} {body orelse : List Stmt} {pos : Pos}
    (k : W prog w (A.over c fs) (isTrue test env (eval test env)) (fun b s' => if b = true then SegZ (model prog w) A Z c ((execs body env).wrap K H gd lv) fs s' else SegZ (model prog w) A Z c ((execs orelse env).wrap K H gd lv) fs s') s) :
    SegZ (model prog w) A Z c ((exec (.If test body orelse pos) env).wrap K H gd lv) fs s := by
  rw [arm_exec_If]
  refine z_at (z_bindw (wpAny_pure (z_bindw (W.mono k (fun b s' hb => ?_)))))
  cases b with
  | true => exact hb
  | false => exact hb
theorem z_for {tg iter : Expr} {body : List Stmt} {pos : Pos}
    (k : W prog w (A.over c fs) (eval iter env) (fun x s₁ => W prog w (A.over c fs) (pyIter x) (fun it s₂ => ∀ p, SegZ (model prog w) A Z (.forLoop tg it body [] env) ((model prog w).den (.forLoop tg it body [] env)) (.ret (ownBack env K H gd lv) none (gd false) (lv []) c p [] :: fs) s₂) s₁) s)
    (hs : ∀ x, foldedSetIterable iter env x = pure x := by intro _; rfl) : SegZ (model prog w) A Z c ((exec (.For tg iter body [] pos) env).wrap K H gd lv) fs s := by
  rw [arm_exec_For]
  refine z_at (z_bindw (wpAny_pure (z_bindw (W.mono k (fun x s₁ h₁ => ?_)))))
  rw [hs]
  refine z_bindw (wpAny_pure (z_at (z_bindw (wpAny_pure (z_bindw (wpAny_holding (W.mono h₁ (fun it s₂ h₂ => ?_))))))))
  exact z_call h₂
theorem z_turn {tg : Expr} {it : Value} {body : List Stmt}
    (k : W prog w (A.over (.forLoop tg it body [] env) fs) (pyNext it) (fun r s₁ => match r with
      | none => SegZ (model prog w) A Z (.block [] env) (leafOf (.ok .next)) fs s₁
      | some v => W prog w (A.over (.forLoop tg it body [] env) fs) (letOwnedTupleGo tg it v) (fun _ s₂ => W prog w (A.over (.forLoop tg it body [] env) fs) (assign tg env v) (fun _ s₃ =>
          SegZ (model prog w) A Z (.forLoop tg it body [] env) ((execs body env).wrap (forK tg it body env) (noted env) id id) fs s₃) s₂) s₁) s) :
    SegZ (model prog w) A Z (.forLoop tg it body [] env) ((model prog w).den (.forLoop tg it body [] env)) fs s := by
  show SegZ _ A Z _ ((forTurn tg it body [] env).onRaise (fun x => do noteFrame x env; theTreesLotGoes x)) fs s
  rw [Sem.onRaise_eq_wrap]
  have eH : (fun e => (do noteFrame e env; theTreesLotGoes e : Sem Unit).bind fun _ => (Sem.raise e : Sem Fin)) = noted env := by
    funext e; rw [Sem.bind_eq_wrap]; rfl
  rw [eH]
  unfold forTurn
  refine z_bindw (wpAny_standAt ?_)
  refine z_bindw (wpAny_onRaise (W.any (W.mono k (fun r s₁ h₁ => ?_))))
  cases r with
  | none => exact z_again rfl h₁
  | some v =>
    refine z_bindw (W.mono h₁ (fun _ s₂ h₂ => ?_))
    refine z_bindw (W.mono h₂ (fun _ s₃ h₃ => ?_))
    rw [Sem.bind_eq_wrap', Sem.wrap_wrap]
    refine Eq.mpr (congrArg (fun t => SegZ (model prog w) A Z (Code.forLoop tg it body [] env) t fs s₃) ?_) h₃
    exact Sem.wrap_congr _ _ _ (fun f => by cases f <;> rfl) (fun e => rfl)
theorem z_while {test : Expr} {body : List Stmt} {pos : Pos}
    (k : ∀ p, SegZ (model prog w) A Z (.whileLoop test body [] env) ((model prog w).den (.whileLoop test body [] env)) (.ret (ownBack env K H gd lv) none (gd false) (lv []) c p [] :: fs) s) :
    SegZ (model prog w) A Z c ((exec (.While test body [] pos) env).wrap K H gd lv) fs s := z_at (z_call k)
theorem z_whileTurn {test : Expr} {body : List Stmt}
    (k : W prog w (A.over (.whileLoop test body [] env) fs) (isTrue test env (eval test env)) (fun b s' =>
        if b = true then SegZ (model prog w) A Z (.whileLoop test body [] env) ((execs body env).wrap (whileK test body env) (noted env) id id) fs s'
        else SegZ (model prog w) A Z (.whileLoop test body [] env) (leafOf (.ok .next)) fs s') s) :
    SegZ (model prog w) A Z (.whileLoop test body [] env) ((model prog w).den (.whileLoop test body [] env)) fs s := by
  show SegZ _ A Z _ ((whileTurn test body [] env).onRaise (fun x => do noteFrame x env; theTreesLotGoes x)) fs s
  rw [Sem.onRaise_eq_wrap]
  have eH : (fun e => (do noteFrame e env; theTreesLotGoes e : Sem Unit).bind fun _ => (Sem.raise e : Sem Fin)) = noted env := by
    funext e; rw [Sem.bind_eq_wrap]; rfl
  rw [eH]
  unfold whileTurn
  refine z_bindw (W.mono k (fun b s' hb => ?_))
  cases b with
  | true =>
    rw [if_pos rfl] at hb ⊢
    rw [Sem.bind_eq_wrap', Sem.wrap_wrap]
    refine Eq.mpr (congrArg (fun t => SegZ (model prog w) A Z (Code.whileLoop test body [] env) t fs s') ?_) hb
    exact Sem.wrap_congr _ _ _ (fun f => by cases f <;> rfl) (fun e => rfl)
  | false =>
    rw [if_neg Bool.false_ne_true] at hb ⊢
    exact hb
/-- back from a loop -/
theorem z_back {c₁ : Code} {p : Pos} {g : Bool} {l : List Value} (k : SegZ (model prog w) A Z c (K .next) fs s) :
    SegZ (model prog w) A Z c₁ (leafOf (.ok .next)) (.ret (ownBack env K H gd lv) none g l c p [] :: fs) s := by
  refine z_leaf (.ok .next) ?_
  show SegZ (model prog w) A Z c (ownBack env K H gd lv (.ok .next)) fs s
  exact k
/-- a yield that is a statement of its own -/
theorem z_yieldStmt {e : Expr} {ypos pos : Pos} {rest : List Stmt} (hfs : splitAtGen fs = none) (hfg : fs.any Frame.guarded = false) (hgd : gd false = false)
    (k : W prog w (A.over c fs) (eval e env) (fun v s' => ∀ (e' : End), e'.quiet = true → (∃ g l k c' p fs', e' = .susp v g l k c' p fs') →
      (∀ A₂ Z₂ s₂, SegZ (model prog w) A₂ Z₂ c ((execs rest env).wrap K H gd lv) fs s₂ → GoesZ (model prog w) A₂ Z₂ e'.genState s₂) → Z e' s') s)
    (hco : env.scope.isCoroutine = false := by rfl) (hi : interactive env = false := by rfl) :
    SegZ (model prog w) A Z c ((execs (.Expr (.Yield (some e) ypos) pos :: rest) env).wrap K H gd lv) fs s := by
  refine z_cons ?_
  rw [exec_Expr env _ pos hi rfl]
  show SegZ (model prog w) A Z c (.at pos fun _ => ((eval e env >>= fun v => (standAt ypos >>= fun _ => yieldOut env v)) >>= fun x =>
    dropValue (.Yield (some e) ypos) pos x).wrap (seqK rest env K H gd lv) H gd lv) fs s
  have hy : ∀ v, yieldOut env v = yieldValue v := fun v => by simp only [yieldOut, hco, Bool.false_eq_true, if_false]
  simp only [hy]
  refine z_at ?_
  rw [Sem.bind_eq_wrap', Sem.bind_eq_wrap', Sem.wrap_wrap, Sem.wrap_wrap]
  refine z_wrap (W.mono k (fun v s' h' => ?_))
  refine z_at (z_yield hfs (fun p => ?_))
  refine h' _ ?_ ⟨_, _, _, _, _, _, rfl⟩ (fun A₂ Z₂ s₂ h₂ => ?_)
  · simp only [End.quiet, hfg, Bool.or_false, Bool.not_eq_true']
    exact hgd
  · exact h₂
theorem z_func {body : List Stmt} (h : SegZ (model prog w) A Z (.func body env) ((execs body env).wrap funK (funH env) id id) [] s) :
    SegZ (model prog w) A Z (.func body env) ((model prog w).den (.func body env)) [] s := by
  show SegZ _ A Z _ (.point [] fun _ => ((execs body env).onRaise (leaving env)) >>= _) [] s
  refine z_point ?_
  rw [Sem.onRaise_eq_wrap, Sem.bind_eq_wrap', Sem.wrap_wrap]
  refine Eq.mpr (congrArg (fun t => SegZ (model prog w) A Z (.func body env) t [] s) ?_) h
  exact Sem.wrap_congr _ _ _ (fun f => by cases f <;> rfl) (fun e => by rw [Sem.bind_eq_wrap, Sem.wrap_wrap]; rfl)
theorem z_fin {f : Flow} (h : Z (.ret (.ok (.ret (retV f)))) s) : SegZ (model prog w) A Z c (funK f) [] s := z_end h

/-- what a generator's next stretch ends in, m values being left -/
def Zp (prog : Program) (w : World) (A : Around) (σ : Shared) (Gr : Array GenState → Prop) (N : Nat) (D : List Cell → Prop) (I : Nat → List Cell → Prop) (V : Nat → Value → List Cell → Prop) (m : Nat) (L : List Cell) (e : End) (s' : Shared) : Prop :=
  match m with
  | 0 => e = .ret (.ok (.ret .none)) ∧ ∃ X', D X' ∧ St σ Gr (X' ++ L) s'
  | m + 1 => ∃ v g l k c p fs W X', e = .susp v g l k c p fs ∧ e.quiet = true ∧ V (N - (m + 1)) v W ∧ I (N - m) X' ∧ St σ Gr (X' ++ (W ++ L)) s' ∧ GoodZ prog w A σ Gr N D I V m X' e.genState
theorem GoodZ_of {Gr : Array GenState → Prop} {N : Nat} {D : List Cell → Prop} {I : Nat → List Cell → Prop} {V : Nat → Value → List Cell → Prop} {m : Nat} {X : List Cell} {gs : GenState}
    (h : ∀ s L, St σ Gr (X ++ L) s → GoesZ (model prog w) A (Zp prog w A σ Gr N D I V m L) gs s) : GoodZ prog w A σ Gr N D I V m X gs := by
  cases m <;> exact h

/-- a call of a generator function -/
theorem T_callGen {a : Addr} {fd : FuncData} {body : List Stmt} {vals : List Value} (binds : List (Str × Value)) {Q : Value → Shared → Prop} (F : Fn σ a fd) (hlim : σ.heap.NoLimit) (hd : A.depth ≤ 900) (h : St σ G L s)
    (k : ∀ Lf ag g s₂, St σ (fun gens => ∃ gens0, G gens0 ∧ g = gens0.size ∧ gens = gens0.push (.fresh (.func body (callEnv fd Lf a)))) ((ag, gob g) :: (Lf, fr binds) :: L) s₂ → Q (.ref ag) s₂)
    (hb : bindArgs fd ⟨vals, []⟩ = pure binds := by rfl)
    (hloc : Each (fun x => fd.scope.names.lookup x.1 = some .local) binds := by repeat (first | exact trivial | refine And.intro (by rfl) ?_)) (hnd : apart (binds.map Prod.fst) = true := by first | rfl | kernel_rfl)
    (hbody : fd.body = .stmts body := by rfl) (hcell : fd.scope.names.all (fun x => !(x.2 == .cell)) = true := by first | rfl | kernel_rfl)
    (hco : fd.scope.isCoroutine = false := by rfl) (hgen : fd.scope.isGenerator = true := by rfl) (hk : fd.scope.kind = .function := by rfl) :
    CallF prog w A σ a vals Q s := by
  refine ⟨fun o ho => h.keep _ _ ho, ?_⟩
  obtain ⟨o, ho, hdat, _⟩ := F.obj
  have hroom : A.depth < recursionLimit := Nat.lt_of_le_of_lt hd (by decide)
  refine codeAny_call_generator hroom (h.keep _ _ ho) hdat hco hgen hbody (F.code.keeps h.keep) ?_
  rw [hb]
  refine wpAny_pure ?_
  refine wpAny_newFunctionEnv (nocell_ok hcell) hloc.mem (fun h₀ hns hsb => ?_) hk
  refine ⟨(hlim.keeps h.keep).fresh _ hsb, ?_⟩
  have h2 := h.push (P := fun o => True) (o := { cls := .type "frame", data := .dict #[] }) (t := s.toks) rfl trivial
  have h3 := h2.same (P' := fr binds) (t := s.toks + binds.length) hsb (by
    obtain ⟨o, es, ep, ho, hd, hsk, hf⟩ := hns
    exact ⟨o, ho, es, ep, hd, hsk, fun p hp => (hf p.1).trans (lookup_rev (apart_nodup hnd) p hp)⟩)
  have h4 := h3.push (P := gob s.gens.size) (o := { cls := .type "generator", data := .fields #[.int s.gens.size 0, .str fd.name (s.toks + binds.length), .str fd.qualname (s.toks + binds.length + 1)] }) (t := s.toks + binds.length + 1 + 1) rfl ⟨_, _, rfl, rfl, rfl⟩
  have h5 := h4.regen (gens' := s.gens.push (.fresh (.func body (callEnv fd s.heap.objs.size a)))) (G' := fun gens => ∃ gens0, G gens0 ∧ s.gens.size = gens0.size ∧ gens = gens0.push (.fresh (.func body (callEnv fd s.heap.objs.size a)))) ⟨s.gens, h.gens, rfl, rfl⟩
  exact k _ _ s.gens.size _ h5
/-- the same, with variables that inner functions use -/
theorem T_callGenC {a : Addr} {fd : FuncData} {body : List Stmt} {vals : List Value} (binds lb : List (Str × Value)) (cs : Nat → List (Str × Addr)) (cm : Str → Option Value) {Q : Value → Shared → Prop} (F : Fn σ a fd) (hlim : σ.heap.NoLimit) (hd : A.depth ≤ 900) (h : St σ G L s)
    (k : ∀ Lf ag g s₂, St σ (fun gens => ∃ gens0, G gens0 ∧ g = gens0.size ∧ gens = gens0.push (.fresh (.func body (callEnvC fd Lf a)))) ((ag, gob g) :: (Lf, fr lb) :: ((cs (Lf + 1)).map (fun p => (p.2, cel (cm p.1))) ++ L)) s₂ → Q (.ref ag) s₂)
    (hcs : ∀ n, cellsFrom n fd.scope.names [] = cs n := by intro _; rfl)
    (hb : bindArgs fd ⟨vals, []⟩ = pure binds := by rfl)
    (hlb : ∀ n, Each (fun p => bindL (callEnvC fd n a).kindOf binds (fun _ => none) p.1 = some p.2) lb := by intro n; repeat (first | exact trivial | refine And.intro (by rfl) ?_))
    (hcm : ∀ n, Each (fun p => (cs (n + 1)).lookup p.1 = some p.2 ∧ bindC (callEnvC fd n a).kindOf binds (fun _ => none) p.1 = cm p.1) (cs (n + 1)) := by intro n; repeat (first | exact trivial | refine And.intro ⟨by rfl, by rfl⟩ ?_))
    (hkind : ∀ n, Each (fun x => fd.scope.names.lookup x.1 = some .local ∨ (fd.scope.names.lookup x.1 = some .cell ∧ ((cs n).lookup x.1).isSome = true)) binds := by intro n; repeat (first | exact trivial | refine And.intro (Or.inl (by rfl)) ?_ | refine And.intro (Or.inr ⟨by rfl, by rfl⟩) ?_))
    (hclo : fd.closure = [] := by rfl)
    (hbody : fd.body = .stmts body := by rfl)
    (hco : fd.scope.isCoroutine = false := by rfl) (hgen : fd.scope.isGenerator = true := by rfl) (hk : fd.scope.kind = .function := by rfl) :
    CallF prog w A σ a vals Q s := by
  refine ⟨fun o ho => h.keep _ _ ho, ?_⟩
  obtain ⟨o, ho, hdat, _⟩ := F.obj
  have hroom : A.depth < recursionLimit := Nat.lt_of_le_of_lt hd (by decide)
  refine codeAny_call_generator hroom (h.keep _ _ ho) hdat hco hgen hbody (F.code.keeps h.keep) ?_
  rw [hb, hclo]
  refine wpAny_pure ?_
  refine wpAny_newFunctionEnv_cells hk (fun x hx => ?_) (fun env he s₁ X => ?_)
  · rw [hcs]
    exact (hkind _).mem x hx
  subst he
  have hcells : (callEnvC fd s.heap.objs.size a).cells = cs (s.heap.objs.size + 1) := hcs _
  have hlocals : (callEnvC fd s.heap.objs.size a).locals = s.heap.objs.size := rfl
  have X : InCallC s (callEnvC fd s.heap.objs.size a).locals (bindL (callEnvC fd s.heap.objs.size a).kindOf binds fun _ => none) (callEnvC fd s.heap.objs.size a).cells (bindC (callEnvC fd s.heap.objs.size a).kindOf binds fun _ => none) s₁ := X
  obtain ⟨h₁, tk, rfl⟩ := X.toInCall.same
  refine ⟨(hlim.keeps h.keep).keeps X.toInCall.keep, ?_⟩
  have h3 : St σ G (((s.heap.objs.size, fr lb) :: (cs (s.heap.objs.size + 1)).map (fun p => (p.2, cel (cm p.1)))) ++ L) { s with heap := h₁, toks := tk } := by
    refine h.growAll (fun b o e => X.toInCall.keep b o e) (fun p hp => ?_) ?_
    · rcases List.mem_cons.mp hp with rfl | hp
      · refine ⟨Nat.le_refl _, ?_⟩
        obtain ⟨o, es, ep, ho, hd, hsk, hf⟩ := X.toInCall.ns
        exact ⟨o, ho, es, ep, hd, hsk, fun p hp => (hf p.1).trans ((hlb _).mem p hp)⟩
      · obtain ⟨q, hq, rfl⟩ := List.mem_map.mp hp
        refine ⟨Nat.le_of_lt (X.above q.1 q.2 (by rw [hcells]; exact hq)), ?_⟩
        obtain ⟨o, ho, e⟩ := X.cell q.1 q.2 (by rw [hcells]; exact ((hcm _).mem q hq).1)
        exact ⟨o, ho, e.trans (by rw [((hcm _).mem q hq).2])⟩
    · rw [List.map_cons, List.nodup_cons]
      constructor
      · intro hm
        obtain ⟨p, hp, e⟩ := List.mem_map.mp hm
        obtain ⟨q, hq, rfl⟩ := List.mem_map.mp hp
        have := X.above q.1 q.2 (by rw [hcells]; exact hq)
        rw [hlocals] at this
        have e' : q.2 = s.heap.objs.size := e
        rw [e'] at this
        exact Nat.lt_irrefl _ this
      · rw [List.map_map]
        have hap := X.apart
        rw [hcells] at hap
        exact List.pairwise_map.mpr hap
  have h4 := h3.push (P := gob s.gens.size) (o := { cls := .type "generator", data := .fields #[.int s.gens.size 0, .str fd.name tk, .str fd.qualname (tk + 1)] }) (t := tk + 1 + 1) rfl ⟨_, _, rfl, rfl, rfl⟩
  have h5 := h4.regen (gens' := s.gens.push (.fresh (.func body (callEnvC fd s.heap.objs.size a)))) (G' := fun gens => ∃ gens0, G gens0 ∧ s.gens.size = gens0.size ∧ gens = gens0.push (.fresh (.func body (callEnvC fd s.heap.objs.size a)))) ⟨s.gens, h.gens, rfl, rfl⟩
  exact k _ _ s.gens.size _ h5
end
end Mine

namespace Mine
open PySem PySem.W PySem.Calls PyProof.Rows

def bodyOf : Stmt → List Stmt
  | .FunctionDef _ _ b .. => b
  | .ClassDef _ _ _ b .. => b
  | _ => []
def scopeOf : Stmt → Scope
  | .FunctionDef _ _ _ _ _ _ sc .. => sc
  | _ => default
def paramsOf : Stmt → Arguments
  | .FunctionDef _ ps .. => ps
  | _ => default
def nthS (l : List Stmt) (i : Nat) : Stmt := l.getD i (.Pass default)

/-- the function of a statement stands at a -/
def FnK (K : Frag) (a : Addr) (st : Stmt) (dV : Value) : Prop := ∃ o fd, K.lookup a = some o ∧ o.data = .func fd ∧ o.cls = .type "function" ∧ fd.body = .stmts (bodyOf st) ∧ fd.params = paramsOf st ∧ fd.scope = scopeOf st ∧ fd.globals = mainGlobals ∧ fd.closure = [] ∧
  fd.defaults = dV ∧ fd.builtins = builtinsNs ∧ codeIn K fd.code fd.qualname = true
/-- a tuple of defaults -/
def TupK (K : Frag) (T : Addr) (items : Array Value) : Prop := ∃ o n, K.lookup T = some o ∧ o.data = .seq items n

section
variable {prog : Program} {w : World} {A : Around} {σ s : Shared} {G : Array GenState → Prop} {L L' : List Cell} {env : Env} {K : Frag}

theorem FnK.fn {a : Addr} {st : Stmt} {dV : Value} (h : FnK K a st dV) (X : K.In σ.heap) : ∃ nm ql kV doc pm an cdv ct, Fn σ a (fnOf nm ql (paramsOf st) (bodyOf st) (scopeOf st) dV kV doc pm an cdv ct) := by
  obtain ⟨o, fd, ho, hd, hc, h1, h2, h3, h4, h5, h6, h7, h8⟩ := h
  obtain ⟨nm, ql, ps, bd, sc, gl, cl, df, kV, doc, pm, an, cdv, ct, bi⟩ := fd
  dsimp only at h1 h2 h3 h4 h5 h6 h7 h8
  subst h1 h2 h3 h4 h5 h6 h7
  exact ⟨nm, ql, kV, doc, pm, an, cdv, ct, ⟨o, X _ _ ho, hd, hc⟩, codeRec_of X h8⟩
theorem FnK.isFn {a : Addr} {st : Stmt} {dV : Value} (h : FnK K a st dV) : typeIn K (.ref a) = some (.type "function") := by
  obtain ⟨o, fd, ho, hd, hc, _⟩ := h
  show (K.lookup a).map (·.cls) = _
  rw [ho]
  exact congrArg some hc

/-- a call by positions, the rest by defaults -/
theorem T_callD {a : Addr} {fd : FuncData} {body : List Stmt} {vals : List Value} (binds : List (Str × Value)) {T : Addr} {items : Array Value} {kk : Option (Array Value) → Sem (List (Str × Value))} {Q : Value → Shared → Prop} (F : Fn σ a fd) (hlim : σ.heap.NoLimit) (hd : A.depth ≤ 900) (X : K.In σ.heap) (hT : TupK K T items) (h : St σ G L s)
    (k : ∀ Lf s₂, St σ G ((Lf, fr binds) :: L) s₂ → W prog w (A.deeper (callEnv fd Lf a)) (execs body (callEnv fd Lf a)) (fun f s'' => Q (retV f) s'') s₂)
    (hdf : fd.defaults = .ref T := by rfl) (hb : bindArgs fd ⟨vals, []⟩ = seqItems? fd.defaults >>= kk := by rfl) (hk2 : kk (some items) = pure binds := by rfl)
    (hloc : Each (fun x => fd.scope.names.lookup x.1 = some .local) binds := by repeat (first | exact trivial | refine And.intro (by rfl) ?_)) (hnd : apart (binds.map Prod.fst) = true := by first | rfl | kernel_rfl)
    (hbody : fd.body = .stmts body := by rfl) (hcell : fd.scope.names.all (fun x => !(x.2 == .cell)) = true := by first | rfl | kernel_rfl)
    (hco : fd.scope.isCoroutine = false := by rfl) (hgen : fd.scope.isGenerator = false := by rfl) (hk : fd.scope.kind = .function := by rfl) :
    CallF prog w A σ a vals Q s :=
  T_callG F hlim hd h (fun b s' => b = binds ∧ s' = s) (fun A' Q' q => by
    obtain ⟨o, n, ho, hs⟩ := hT
    rw [hb, hdf]
    exact wpAny_bind (wpAny_seqItems (h.keep _ _ (X _ _ ho)) hs (hk2 ▸ wpAny_pure (q _ _ ⟨rfl, rfl⟩)))) (fun b s₁ e => by
    obtain ⟨rfl, rfl⟩ := e
    exact ⟨L, h, hloc.mem, apart_nodup hnd, k⟩) hbody hcell hco hgen hk
/-- the same, with an empty ** -/
theorem T_callDK {a : Addr} {fd : FuncData} {body : List Stmt} {vals : List Value} (binds : Addr → List (Str × Value)) {T : Addr} {items : Array Value} {kk : Option (Array Value) → Sem (List (Str × Value))} {Q : Value → Shared → Prop} (F : Fn σ a fd) (hlim : σ.heap.NoLimit) (hd : A.depth ≤ 900) (X : K.In σ.heap) (hT : TupK K T items) (h : St σ G L s)
    (k : ∀ D Lf s₂, St σ G ((Lf, fr (binds D)) :: (D, dct prog w []) :: L) s₂ → W prog w (A.deeper (callEnv fd Lf a)) (execs body (callEnv fd Lf a)) (fun f s'' => Q (retV f) s'') s₂)
    (hdf : fd.defaults = .ref T := by rfl) (hb : bindArgs fd ⟨vals, []⟩ = seqItems? fd.defaults >>= kk := by rfl) (hk2 : kk (some items) = (alloc { cls := .type "dict", data := .dict #[] } >>= fun D => pure (binds D)) := by rfl)
    (hloc : ∀ D, Each (fun x => fd.scope.names.lookup x.1 = some .local) (binds D) := by intro D; repeat (first | exact trivial | refine And.intro (by rfl) ?_)) (hnd : ∀ D, apart ((binds D).map Prod.fst) = true := by intro D; first | rfl | kernel_rfl)
    (hbody : fd.body = .stmts body := by rfl) (hcell : fd.scope.names.all (fun x => !(x.2 == .cell)) = true := by first | rfl | kernel_rfl)
    (hco : fd.scope.isCoroutine = false := by rfl) (hgen : fd.scope.isGenerator = false := by rfl) (hk : fd.scope.kind = .function := by rfl) :
    CallF prog w A σ a vals Q s :=
  T_callG F hlim hd h (fun b s' => ∃ D, b = binds D ∧ St σ G ((D, dct prog w []) :: L) s') (fun A' Q' q => by
    obtain ⟨o, n, ho, hs⟩ := hT
    rw [hb, hdf]
    refine wpAny_bind (wpAny_seqItems (h.keep _ _ (X _ _ ho)) hs ?_)
    rw [hk2]
    exact wpAny_bind (wpAny_alloc (wpAny_pure (q _ _ ⟨_, rfl, h.push (t := s.toks) rfl dct_nil⟩)))) (fun b s₁ e => by
    obtain ⟨D, rfl, h'⟩ := e
    exact ⟨_, h', (hloc D).mem, apart_nodup (hnd D), k D⟩) hbody hcell hco hgen hk
/-- no defaults, an empty ** -/
theorem T_callPK {a : Addr} {fd : FuncData} {body : List Stmt} {vals : List Value} (binds : Addr → List (Str × Value)) {Q : Value → Shared → Prop} (F : Fn σ a fd) (hlim : σ.heap.NoLimit) (hd : A.depth ≤ 900) (h : St σ G L s)
    (k : ∀ D Lf s₂, St σ G ((Lf, fr (binds D)) :: (D, dct prog w []) :: L) s₂ → W prog w (A.deeper (callEnv fd Lf a)) (execs body (callEnv fd Lf a)) (fun f s'' => Q (retV f) s'') s₂)
    (hb : bindArgs fd ⟨vals, []⟩ = (alloc { cls := .type "dict", data := .dict #[] } >>= fun D => pure (binds D)) := by rfl)
    (hloc : ∀ D, Each (fun x => fd.scope.names.lookup x.1 = some .local) (binds D) := by intro D; repeat (first | exact trivial | refine And.intro (by rfl) ?_)) (hnd : ∀ D, apart ((binds D).map Prod.fst) = true := by intro D; first | rfl | kernel_rfl)
    (hbody : fd.body = .stmts body := by rfl) (hcell : fd.scope.names.all (fun x => !(x.2 == .cell)) = true := by first | rfl | kernel_rfl)
    (hco : fd.scope.isCoroutine = false := by rfl) (hgen : fd.scope.isGenerator = false := by rfl) (hk : fd.scope.kind = .function := by rfl) :
    CallF prog w A σ a vals Q s :=
  T_callG F hlim hd h (fun b s' => ∃ D, b = binds D ∧ St σ G ((D, dct prog w []) :: L) s') (fun A' Q' q => by
    rw [hb]
    exact wpAny_bind (wpAny_alloc (wpAny_pure (q _ _ ⟨_, rfl, h.push (t := s.toks) rfl dct_nil⟩)))) (fun b s₁ e => by
    obtain ⟨D, rfl, h'⟩ := e
    exact ⟨_, h', (hloc D).mem, apart_nodup (hnd D), k D⟩) hbody hcell hco hgen hk
theorem T_assignAttr {o : Expr} {attr : Str} {pos : Pos} {v : Value} {Q : Unit → Shared → Prop} (k : W prog w A (eval o env) (fun ov s₁ => W prog w A (setAttr ov attr v) (fun _ s₂ => Q () s₂) s₁) s) : W prog w A (assign (.Attribute o attr pos) env v) Q s := by
  rw [arm_assign_Attribute]
  refine wpAny_bind (wpAny_holding (W.mono k (fun ov s₁ h₁ => ?_)))
  refine wpAny_bind (wpAny_standAt (wpAny_bind (wpAny_holding (W.mono h₁ (fun _ s₃ h₃ => ?_)))))
  exact wpAny_release h₃
/-- a call that does nothing but return -/
theorem CallF.mono {a : Addr} {vals : List Value} {Q Q' : Value → Shared → Prop} (h : CallF prog w A σ a vals Q s) (k : ∀ v s, Q v s → Q' v s) : CallF prog w A σ a vals Q' s :=
  ⟨h.1, codeAny_mono h.2 fun r s' z => by rcases r with e | (v | _ | _ | _) <;> first | exact z.elim | exact k _ _ z⟩
end
end Mine

namespace Mine
open PySem PySem.W PySem.Calls PyProof.Rows

/-- how often a cell stands in a ledger -/
noncomputable def one (a b : Cell) : Nat := @ite Nat (b = a) (Classical.propDecidable _) 1 0
noncomputable def cnt (a : Cell) : List Cell → Nat
  | [] => 0
  | b :: l => one a b + cnt a l
theorem cnt_nil (a : Cell) : cnt a [] = 0 := rfl
theorem cnt_cons (a b : Cell) (l : List Cell) : cnt a (b :: l) = one a b + cnt a l := rfl
theorem cnt_app (a : Cell) (l m : List Cell) : cnt a (l ++ m) = cnt a l + cnt a m := by
  induction l with
  | nil => simp [cnt]
  | cons b l ih => simp only [List.cons_append, cnt, ih, Nat.add_assoc]
theorem cnt_perm {l m : List Cell} (h : ∀ a, cnt a l = cnt a m) : l.Perm m := by
  letI : DecidableEq Cell := fun _ _ => Classical.propDecidable _
  rw [List.perm_iff_count]
  intro a
  have key : ∀ l : List Cell, l.count a = cnt a l := by
    intro l
    induction l with
    | nil => rfl
    | cons b l ih =>
      rw [List.count_cons, ih, cnt, Nat.add_comm]
      congr 1
      unfold one
      by_cases e : b = a
      · subst e; simp
      · rw [if_neg e]; simp [e]
  rw [key, key, h a]
theorem St.re {σ s : Shared} {G : Array GenState → Prop} {L L' : List Cell} (h : St σ G L s) (e : ∀ a, cnt a L = cnt a L' := by intro a; simp only [cnt_cons, cnt_app, cnt_nil, Nat.zero_add, Nat.add_zero] <;> first | ac_rfl | simp only [Nat.add_comm, Nat.add_left_comm, Nat.add_assoc]) : St σ G L' s := h.perm (cnt_perm e)
end Mine

namespace Mine
open PySem PySem.W PySem.Calls PyProof.Rows

/-- contexts in which no collection is under way -/
def notFin : Code → Bool
  | .builtin id _ => id != "lifetime.gc.finalise"
  | _ => true
def CleanL (l : List (Code × Pos)) : Prop := ∀ x ∈ l, notFin x.1 = true
def Clean (Γ : Ctx) : Prop := notFin Γ.code = true ∧ CleanL Γ.below
def Wc {α : Type} (prog : Program) (w : World) (A : Around) (t : Sem α) (Q : α → Shared → Prop) (s : Shared) : Prop :=
  ∀ Γ p, Γ.In A → Clean Γ → Sem.wp (model prog w) Γ t (fun a _ s' => Q a s') (fun _ _ _ => False) p s
def RQ (Q : Flow → Shared → Prop) : Result → Shared → Prop := fun r s' => match r with | .ok f => Q f s' | .error _ => False
def codeC (prog : Program) (w : World) (A : Around) (c : Code) (Q : Flow → Shared → Prop) (s : Shared) : Prop :=
  ∀ Γ p, Γ.code = c → Γ.Below A → CleanL Γ.below → wpCode (model prog w) Γ (RQ Q) p s

section
variable {α β : Type} {prog : Program} {w : World} {A : Around} {s : Shared}

theorem c_of {t : Sem α} {Q : α → Shared → Prop} (h : W prog w A t Q s) : Wc prog w A t Q s := fun Γ p hΓ _ => h Γ p hΓ
theorem c_mono {t : Sem α} {Q Q' : α → Shared → Prop} (h : Wc prog w A t Q s) (k : ∀ a s, Q a s → Q' a s) : Wc prog w A t Q' s :=
  fun Γ p hΓ hc => Sem.wp_mono _ Γ t (fun a _ s => k a s) (fun _ _ _ h => h) p s (h Γ p hΓ hc)
theorem c_black {t : Sem α} {Q Q' : α → Shared → Prop} (h : W prog w A t Q s) (k : ∀ a s, Q a s → Q' a s) : Wc prog w A t Q' s := c_mono (c_of h) k
theorem c_pure {a : α} {Q : α → Shared → Prop} (h : Q a s) : Wc prog w A (pure a : Sem α) Q s := fun _ _ _ _ => h
theorem c_bind {m : Sem α} {f : α → Sem β} {Q : β → Shared → Prop} (h : Wc prog w A m (fun a s' => Wc prog w A (f a) Q s') s) : Wc prog w A (m >>= f) Q s := fun Γ p hΓ hc => by
  rw [Sem.wp_bind']
  exact Sem.wp_mono _ Γ m (fun a p' s' h' => h' Γ p' hΓ hc) (fun _ _ _ h' => h') p s (h Γ p hΓ hc)
theorem c_holding {vs : List Value} {m : Sem α} {Q : α → Shared → Prop} (h : Wc prog w A m Q s) : Wc prog w A (holding vs m) Q s := fun Γ p hΓ hc => by rw [Sem.wp_holding]; exact h Γ p hΓ hc
theorem c_onRaise {m : Sem α} {k : Value → Sem Unit} {Q : α → Shared → Prop} (h : Wc prog w A m Q s) : Wc prog w A (m.onRaise k) Q s := fun Γ p hΓ hc => by
  rw [Sem.wp_onRaise]
  exact Sem.wp_mono _ Γ m (fun _ _ _ h' => h') (fun e p' s' h' => h'.elim) p s (h Γ p hΓ hc)
theorem c_attempt {m : Sem α} {Q : Except Value α → Shared → Prop} (h : Wc prog w A m (fun a => Q (.ok a)) s) : Wc prog w A m.attempt Q s := fun Γ p hΓ hc => by
  rw [Sem.wp_attempt]
  exact Sem.wp_mono _ Γ m (fun _ _ _ h' => h') (fun e p' s' h' => h'.elim) p s (h Γ p hΓ hc)
theorem c_standAt {pos : Pos} {Q : Unit → Shared → Prop} (h : Q () s) : Wc prog w A (standAt pos) Q s := fun _ _ _ _ => h
theorem c_rule {tag : String} {Q : Unit → Shared → Prop} (h : Q () s) : Wc prog w A (rule tag) Q s := fun _ _ _ _ => h
theorem c_ite {c : Prop} [Decidable c] {a b : Sem α} {Q : α → Shared → Prop} (h : if c then Wc prog w A a Q s else Wc prog w A b Q s) : Wc prog w A (if c then a else b) Q s := by split <;> simp_all

/-- a look at the stack finds no collection -/
theorem c_stack {Q : List (Code × Pos) → Shared → Prop} (h : ∀ st, CleanL st → Q st s) : Wc prog w A stack Q s := fun Γ p hΓ hc => by
  show Q ((Γ.code, p) :: Γ.below) s
  refine h _ (fun x hx => ?_)
  rcases List.mem_cons.mp hx with rfl | hx
  · exact hc.1
  · exact hc.2 x hx
theorem find_clean {f : Code × Pos → Option β} {st : List (Code × Pos)} (hs : CleanL st) (hf : ∀ c p, notFin c = true → f (c, p) = none) : st.findSome? f = none := by
  rw [List.findSome?_eq_none_iff]
  exact fun x hx => hf x.1 x.2 (hs x hx)

theorem codeC_mono {c : Code} {Q Q' : Flow → Shared → Prop} (h : codeC prog w A c Q s) (k : ∀ f s, Q f s → Q' f s) : codeC prog w A c Q' s :=
  fun Γ p hc hΓ hl => wpCode_mono (fun r s z => by cases r with | ok f => exact k f s z | error e => exact z) (h Γ p hc hΓ hl)
theorem codeC_of {c : Code} {Q : Flow → Shared → Prop} (h : codeAny (model prog w) A c (RQ Q) s) : codeC prog w A c Q s := fun Γ p hc hΓ _ => h Γ p hc hΓ
theorem Clean.enter {Γ : Ctx} {p : Pos} (h : Clean Γ) : CleanL ((Γ.code, p) :: Γ.below) := fun x hx => by
  rcases List.mem_cons.mp hx with rfl | hx
  · exact h.1
  · exact h.2 x hx
theorem c_run {c : Code} {h : Option Value} {Q : Flow → Shared → Prop} (hc : codeC prog w (A.mark h) c Q s) (hnb : h ≠ some byPass := by intro x; cases x) : Wc prog w A (run c h) Q s :=
  fun Γ p hΓ hcl => by
    rw [Sem.wp_run]
    exact wpCode_mono (fun r s z => by cases r with | ok f => exact z | error e => exact z.elim) (hc _ p rfl (hΓ.enter c h p hnb) hcl.enter)
theorem c_runValue {c : Code} {Q : Value → Shared → Prop} (hc : codeC prog w A c (fun f s' => match f with | .ret v => Q v s' | _ => False) s) : Wc prog w A (runValue c) Q s :=
  fun Γ p hΓ hcl => by
    rw [Sem.wp_runValue]
    exact wpCode_mono (fun r s z => by rcases r with e | (v | _ | _ | _) <;> first | exact z | exact z.elim) (hc _ p rfl (hΓ.enter c none p (by intro x; cases x)) hcl.enter)
theorem c_call {f : Value} {pos : List Value} {kw : List (Str × Value)} {Q : Value → Shared → Prop} (hc : codeC prog w A (.call f ⟨pos, kw⟩) (fun f s' => match f with | .ret v => Q v s' | _ => False) s) : Wc prog w A (call f pos kw) Q s := c_runValue hc
theorem codeC_of_tree {c : Code} {Q : Flow → Shared → Prop} (hn : notFin c = true)
    (h : Wc prog w (A.under c) ((model prog w).den c) (fun fin s' => match fin with | .done f => Q f s' | .again c' => c'.quiet = true ∧ codeC prog w A c' Q s') s) : codeC prog w A c Q s := fun Γ p hc hΓ hl => by
  rw [wpCode_iff_wp, hc]
  refine Sem.wp_mono _ Γ _ (fun fin p' s' h' => ?_) (fun _ _ _ h' => h') p s (h Γ p (hc ▸ hΓ.in) ⟨by rw [hc]; exact hn, hl⟩)
  cases fin with
  | done f => exact h'
  | again c' => exact ⟨h'.1, h'.2 (Γ.goto c') p' rfl (hΓ.goto c') hl⟩
theorem codeC_loop {c : Code} {Q : Flow → Shared → Prop} (hn : notFin c = true) (hq : c.quiet = true) (I : Nat → Shared → Prop)
    (turn : ∀ n s, I n s → Wc prog w (A.under c) ((model prog w).den c) (fun fin s' => match fin with | .done f => Q f s' | .again c' => c' = c ∧ ∃ m, m < n ∧ I m s') s)
    (n : Nat) (h : I n s) : codeC prog w A c Q s := by
  induction n using Nat.strongRecOn generalizing s with
  | ind n ih =>
    refine codeC_of_tree hn (c_mono (turn n s h) (fun fin s' hf => ?_))
    cases fin with
    | done f => exact hf
    | again c' => obtain ⟨rfl, m, hm, hI⟩ := hf; exact ⟨hq, ih m hm hI⟩
end
end Mine

namespace Mine
open PySem PySem.W PySem.Calls PyProof.Rows Builtin Builtin.ObjectAttr Builtin.Getset_descriptor

section
variable {prog : Program} {w : World} {A : Around} {σ s : Shared} {G : Array GenState → Prop} {L L' : List Cell} {K : Frag} {x C dx : Addr} {l : List (Str × Value)} {name : Str}

theorem codeC_builtin {id : String} {args : Args} {b : Builtin} {Q : Flow → Shared → Prop} (hb : entryFor table id = some b) (hn : notFin (.builtin id args) = true)
    (h : Wc prog w (A.under (.builtin id args)) (b args) (fun fin s' => match fin with | .done f => Q f s' | .again c' => c'.quiet = true ∧ codeC prog w A c' Q s') s) : codeC prog w A (.builtin id args) Q s := by
  refine codeC_of_tree hn ?_
  show Wc _ _ _ (match entryFor table id with | some b => b args | none => unsupported ((withoutEnding? id "#data").getD id)) _ s
  rw [hb]; exact h

theorem entry_fdict : entryFor table "function.__dict__" = some Builtin.«function.__dict__» := entryFor_of_fast (by kernel_rfl)

theorem ite_both {c : Prop} [Decidable c] {P Q : Prop} (h1 : P) (h2 : Q) : if c then P else Q := by split <;> assumption

/-- no other thread was made -/
def Alone (σ : Shared) : Prop := ∃ m, σ.heap.Ns cStatics m ∧ m "_thread.count" = none

theorem put_same {a : Addr} {P : Pr} : ∀ {L : List Cell}, (a, P) ∈ L → Put a P P L L
  | _ :: _, .head _ => .here
  | _ :: _, .tail _ m => .there (put_same m)

theorem codeC_fdict {Q : Flow → Shared → Prop} (X : K.In σ.heap) (hAl : Alone σ) (hst : mroIn K C (.type "staticmethod") = some false) (hcm : mroIn K C (.type "classmethod") = some false) (hdict : (clsIn K C).any (·.hasDict) = true)
    (h : St σ G L s) (hx : (x, ins C dx) ∈ L) (hd : (dx, sd prog w l) ∈ L) (k : ∀ s', St σ G L s' → Q (.ret (.ref dx)) s') : codeC prog w A (.builtin "function.__dict__" ⟨[.ref x], []⟩) Q s := by
  obtain ⟨od, hsd, hod, I⟩ := h.inst hx hd
  have XK := X.keeps h.keep
  obtain ⟨cd, hc, hd'⟩ := any_some hdict
  refine codeC_builtin entry_fdict (by rfl) ?_
  unfold Builtin.«function.__dict__»
  dsimp only
  have L1 : Looks (model prog w) s.heap (isInstance (.ref x) (.type "staticmethod")) false := I.type.andThen (looks_mroIn XK hst)
  have L2 : Looks (model prog w) s.heap (isInstance (.ref x) (.type "classmethod")) false := I.type.andThen (looks_mroIn XK hcm)
  have L3 : Looks (model prog w) s.heap (isInstance (.ref x) (.type "staticmethod") <||> isInstance (.ref x) (.type "classmethod")) false := L1.andThen L2
  refine c_bind (c_of (L3.here ?_))
  rw [if_neg Bool.false_ne_true]
  refine c_bind ?_
  unfold instanceDictHandedOut
  refine c_bind (c_of (wpAny_bind (wpAny_loadPart I.at_ ?_)))
  dsimp only
  refine wpAny_bind ((looks_clsIn XK hc).here ?_)
  rw [hd']
  refine wpAny_pure (a := some dx) ?_
  refine c_bind (c_of (wpAny_loadPart I.at_ ?_))
  dsimp only
  refine c_bind (c_mono (Q := fun r s' => r = none ∧ s' = s) ?_ ?_)
  · refine c_bind (m := load dx) (c_of (wpAny_load hod ?_))
    refine c_ite (ite_both (c_pure ⟨rfl, rfl⟩) ?_)
    refine c_bind (c_stack (fun st hst => ?_))
    rw [find_clean hst (fun c p hn => by
      dsimp only
      split
      · simp [notFin] at hn
      · rfl)]
    dsimp only
    obtain ⟨m, hm, hnone⟩ := hAl
    refine c_bind (c_of (wpAny_nsGet (hm.keeps h.keep) ?_))
    rw [hnone]
    exact c_pure ⟨rfl, rfl⟩
  · rintro r s' ⟨rfl, rfl⟩
    dsimp only
    have hS := h.put (t := s'.toks) (put_same hd) (Heap.SameBut.update (h := s'.heap) (a := dx) (f := fun o => if o.slots.isEmpty = true then { cls := o.cls, dict := o.dict, data := o.data, slots := #[none] } else o)) ⟨_, Heap.get?_update_self _ hod (by split <;> (obtain ⟨_, es, ep, hdat, _⟩ := hsd; exact Obj.isFreed_of_dict hdat)), by
      obtain ⟨⟨e1, e2⟩, r⟩ := hsd
      split
      · exact ⟨⟨e1, e2⟩, r⟩
      · exact ⟨⟨e1, e2⟩, r⟩⟩
    refine c_bind (c_of (wpAny_update hod ?_))
    exact c_pure (c_pure (k _ hS))

theorem codeC_call_builtin {id : String} {args : Args} {b : Builtin} {Q : Flow → Shared → Prop} (hp : plainId id = true) (hb : entryFor table id = some b) (hn : notFin (.builtin id args) = true)
    (hc : ∀ (A' : Around) (Q' : Unit → Shared → Prop), Q' () s → W prog w A' (checkBuiltinCall id args) Q' s)
    (h : Wc prog w (A.under (.builtin id args)) (b args) (fun fin s' => match fin with | .done f => Q f s' | .again c' => c'.quiet = true ∧ codeC prog w A c' Q s') s) : codeC prog w A (.call (.builtin id) args) Q s := by
  refine codeC_of_tree rfl ?_
  show Wc _ _ _ (do checkBuiltinCall id args; again (.builtin id args)) _ s
  refine c_bind (c_of (hc _ _ ?_))
  exact c_pure ⟨plainId_quiet hp _, codeC_builtin hb hn h⟩

/-- the getter of a __dict__ -/
theorem codeC_getset {p : Addr} {nm : Str} {tn : Tok} {owner v3 tp : Value} {Q : Flow → Shared → Prop} (X : K.In σ.heap) (hAl : Alone σ) (hp : recIn K p "getset_descriptor" = some [.str nm tn, owner, .builtin "function.__dict__", v3]) (hm : mroIn K C owner = some true) (hst : mroIn K C (.type "staticmethod") = some false) (hcm : mroIn K C (.type "classmethod") = some false) (hdict : (clsIn K C).any (·.hasDict) = true)
    (h : St σ G L s) (hx : (x, ins C dx) ∈ L) (hd : (dx, sd prog w l) ∈ L) (k : ∀ s', St σ G L s' → Q (.ret (.ref dx)) s') : codeC prog w A (.call (.builtin "getset_descriptor.__get__") ⟨[.ref p, .ref x, tp], []⟩) Q s := by
  obtain ⟨od, hsd, hod, I⟩ := h.inst hx hd
  have XK := X.keeps h.keep
  obtain ⟨dd, sl, ho⟩ := rec_of XK hp
  have L0 := I.type (M := model prog w)
  have L1 : Looks (model prog w) s.heap (isInstance (.ref x) owner) true := L0.andThen (looks_mroIn XK hm)
  have f0 := looks_field (M := model prog w) ho 0 (v := .str nm tn) rfl
  have f1 := looks_field (M := model prog w) ho 1 (v := owner) rfl
  have f2 := looks_field (M := model prog w) ho 2 (v := .builtin "function.__dict__") rfl
  have f5 : Looks (model prog w) s.heap (descrItself (.ref p)) [] := ((Looks.ld (part := none) ho).andThen .now).andThen (Looks.of_pure (by kernel_rfl))
  refine codeC_call_builtin (by decide +kernel) KF.entry_gs rfl (fun A' Q' q => KF.slot_gs.check _ _ _ _ _ _ _ _ ⟨_, ho, rfl⟩ (KF.args_gs _ _ _) q) ?_
  unfold Builtin.«getset_descriptor.__get__» descrGet
  rw [dga_obj]
  refine c_bind (c_pure ?_)
  unfold descrGetter descrCheckInstance descrNameAndClass
  dsimp only
  refine c_bind (c_of (wpAny_bind (wpAny_bind (f0.here (wpAny_bind (f1.here (wpAny_pure ?_)))))))
  refine wpAny_bind (L1.here ?_)
  refine wpAny_pure ?_
  refine c_bind (c_of (f2.here ?_))
  dsimp only
  refine c_bind (c_rule (c_bind (c_of (f5.here ?_))))
  exact c_pure ⟨Code.quiet_builtin _ (by decide +kernel), codeC_fdict X hAl hst hcm hdict h hx hd k⟩

/-- an attribute that its descriptor hands out -/
theorem c_getBind {expr : Bool} {g a : Value} {Q : Value → Shared → Prop} (X : K.In σ.heap) (hga : findIn K (.ref C) "__getattribute__" = some (some (.builtin "object.__getattribute__"))) (hk : findIn K (.ref C) "__getattr__" = some none)
    (hf : ∀ od, sd prog w l od → findObj K C (some od) name = some (.bind g a)) (h : St σ G L s) (hx : (x, ins C dx) ∈ L) (hd : (dx, sd prog w l) ∈ L)
    (k : ∀ (A' : Around) s', A'.depth ≤ A.depth → A'.handled = A.handled → St σ G L s' → codeC prog w A' (.call g ⟨[a, .ref x, .ref C], []⟩) (fun f s₂ => match f with | .ret v => handedIn v = true ∧ Q v s₂ | _ => False) s') : Wc prog w A (getAttr (.ref x) name expr) Q s := by
  obtain ⟨od, hsd, hod, I⟩ := h.inst hx hd
  have XK := X.keeps h.keep
  obtain ⟨hp, gg, d, tk, os⟩ := s
  have L0 := I.type (M := model prog w)
  have L1 := looks_findIn (M := model prog w) XK hga
  have L2 := looks_find (M := model prog w) XK I (hf od hsd)
  have L3 := looks_findIn (M := model prog w) XK hk
  unfold getAttr getAttrBy
  refine c_bind (c_of (wpAny_mkText ?_))
  refine c_holding (c_bind (c_of (L0.at (c_bind (c_of (L1.at ?_))))))
  show Wc _ _ _ (getAttrEveryday _ _ _) _ _
  unfold getAttrEveryday
  refine c_bind (c_onRaise (c_runValue (codeC_builtin PySem.F.plainObj_entry_getattr_hooked rfl ?_)))
  refine c_bind (c_pure (c_bind (c_of (L0.at (c_bind (c_of (L2.at (c_bind (c_of (L3.at ?_)))))))))) 
  show Wc _ _ _ (holding [a] (call g [a, .ref x, .ref C]) >>= ret) _ _
  refine c_bind (c_holding (c_call (codeC_mono (k _ _ ?_ rfl (h.toks _)) (fun f s₂ z => ?_))))
  · exact Nat.le_of_eq (by show A.depth + _ = A.depth; first | rfl | (have e : (Code.builtin "proto.getattr_hooked" ⟨[.ref x, .str name tk], []⟩).weight = 0 := rfl; rw [e]; rfl))
  · cases f with
    | ret v =>
      refine c_pure ?_
      show Wc _ _ _ (handedOut v) _ _
      rw [handedOut_of z.1]
      exact c_pure z.2
    | _ => exact z.elim
end
end Mine

namespace Mine
open PySem PySem.W PySem.Calls PyProof.Rows

/-- what a call hands back -/
def RV (Q : Value → Shared → Prop) : Flow → Shared → Prop := fun f s' => match f with | .ret v => Q v s' | _ => False
def CallC (prog : Program) (w : World) (A : Around) (σ : Shared) (a : Addr) (vals : List Value) (Q : Value → Shared → Prop) (s : Shared) : Prop :=
  (∀ o, σ.heap.get? a = some o → s.heap.get? a = some o) ∧ codeC prog w A (.call (.ref a) ⟨vals, []⟩) (RV Q) s

section
variable {prog : Program} {w : World} {A : Around} {σ s : Shared} {G : Array GenState → Prop} {L L' : List Cell} {env : Env} {K : Frag}

theorem CallC.run {a : Addr} {vals : List Value} {Q : Value → Shared → Prop} (h : CallC prog w A σ a vals Q s) : Wc prog w A (call (.ref a) vals) Q s := c_call h.2
theorem CallC.of {a : Addr} {vals : List Value} {Q : Value → Shared → Prop} (h : CallF prog w A σ a vals Q s) : CallC prog w A σ a vals Q s :=
  ⟨h.1, codeC_of (codeAny_mono h.2 fun r s' z => by rcases r with e | (v | _ | _ | _) <;> exact z)⟩
theorem CallC.mono {a : Addr} {vals : List Value} {Q Q' : Value → Shared → Prop} (h : CallC prog w A σ a vals Q s) (k : ∀ v s, Q v s → Q' v s) : CallC prog w A σ a vals Q' s :=
  ⟨h.1, codeC_mono h.2 fun f s z => by cases f <;> first | exact k _ _ z | exact z⟩

theorem codeC_func {body : List Stmt} {env : Env} {Q : Value → Shared → Prop} (h : Wc prog w (A.deeper env) (execs body env) (fun f s' => Q (retV f) s') s) : codeC prog w A (.func body env) (RV Q) s := by
  refine codeC_of_tree rfl ?_
  show Wc _ _ (A.deeper env) (do point; match ← (execs body env).onRaise (leaving env) with | .ret v => ret v | _ => ret .none) _ s
  refine c_bind (c_of (wpAny_point (c_bind (c_onRaise (c_mono h (fun f s' h' => ?_))))))
  cases f <;> exact c_pure h'

theorem codeC_callFn {a : Addr} {args : Args} {o : Obj} {fd : FuncData} {body : List Stmt} {Q : Flow → Shared → Prop} (hroom : A.depth < recursionLimit)
    (ho : s.heap.get? a = some o) (hd' : o.data = .func fd) (hco : fd.scope.isCoroutine = false) (hgen : fd.scope.isGenerator = false) (hbody : fd.body = .stmts body) (hcd : s.heap.CodeRec fd.code fd.qualname)
    (h : W prog w A.in1 (bindArgs fd args) (fun binds s₁ => W prog w A.in1 (newFunctionEnv fd.scope fd.globals fd.closure binds (fd.qualname ++ ".<locals>.") (some a) fd.code none fd.builtins)
        (fun env s₂ => s₂.heap.NoLimit ∧ codeC prog w A (.func body env) Q s₂) s₁) s) : codeC prog w A (.call (.ref a) args) Q s := by
  refine codeC_of_tree rfl ?_
  show Wc _ _ A.in1 (callAny (.ref a) args) _ s
  simp only [callAny]
  refine c_bind (c_of (wpAny_load ho ?_))
  obtain ⟨c, oc, vs, tq, hc, hoc, hdc, hq⟩ := hcd
  simp only [hd', callFunction, hco, hgen, hbody, hc]
  rw [hc] at h
  refine c_bind (c_of (wpAny_field hoc hdc hq (c_bind (c_pure ?_))))
  refine c_bind (c_of (W.mono h (fun binds s₁ h₁ => ?_)))
  refine c_bind (c_of (W.mono h₁ (fun env s₂ h₂ => ?_)))
  exact c_bind (c_of (wpAny_enterFrame h₂.1 hroom (c_pure (And.intro rfl h₂.2))))

theorem C_callG {a : Addr} {fd : FuncData} {body : List Stmt} {vals : List Value} {Q : Value → Shared → Prop} (F : Fn σ a fd) (hlim : σ.heap.NoLimit) (hd : A.depth ≤ 900) (h : St σ G L s)
    (Bk : List (Str × Value) → Shared → Prop)
    (hb : ∀ (A' : Around) (Q' : List (Str × Value) → Shared → Prop), (∀ binds s', Bk binds s' → Q' binds s') → W prog w A' (bindArgs fd ⟨vals, []⟩) Q' s)
    (k : ∀ binds s₁, Bk binds s₁ → ∃ L₁, St σ G L₁ s₁ ∧ (∀ x ∈ binds, fd.scope.names.lookup x.1 = some .local) ∧ (binds.map Prod.fst).Nodup ∧
      ∀ Lf s₂, St σ G ((Lf, fr binds) :: L₁) s₂ → Wc prog w (A.deeper (callEnv fd Lf a)) (execs body (callEnv fd Lf a)) (fun f s'' => Q (retV f) s'') s₂)
    (hbody : fd.body = .stmts body := by rfl) (hcell : fd.scope.names.all (fun x => !(x.2 == .cell)) = true := by first | rfl | kernel_rfl)
    (hco : fd.scope.isCoroutine = false := by rfl) (hgen : fd.scope.isGenerator = false := by rfl) (hk : fd.scope.kind = .function := by rfl) :
    CallC prog w A σ a vals Q s := by
  refine ⟨fun o ho => h.keep _ _ ho, ?_⟩
  obtain ⟨o, ho, hdat, _⟩ := F.obj
  have hroom : A.depth < recursionLimit := Nat.lt_of_le_of_lt hd (by decide)
  refine codeC_callFn hroom (h.keep _ _ ho) hdat hco hgen hbody (F.code.keeps h.keep) (hb A.in1 _ (fun binds s₁ hB => ?_))
  obtain ⟨L₁, h1, hloc, hnd, hk'⟩ := k binds s₁ hB
  refine wpAny_newFunctionEnv (nocell_ok hcell) hloc (fun h₀ hns hsb => ⟨(hlim.keeps h1.keep).fresh _ hsb, codeC_func ?_⟩) hk
  have h2 := h1.push (P := fun o => True) (o := { cls := .type "frame", data := .dict #[] }) (t := s₁.toks) rfl trivial
  have h3 := h2.same (P' := fr binds) (t := s₁.toks + binds.length) hsb (by
    obtain ⟨o, es, ep, ho, hd, hsk, hf⟩ := hns
    exact ⟨o, ho, es, ep, hd, hsk, fun p hp => (hf p.1).trans (lookup_rev hnd p hp)⟩)
  exact hk' _ _ h3
theorem C_callP {a : Addr} {fd : FuncData} {body : List Stmt} {vals : List Value} (binds : List (Str × Value)) {Q : Value → Shared → Prop} (F : Fn σ a fd) (hlim : σ.heap.NoLimit) (hd : A.depth ≤ 900) (h : St σ G L s)
    (k : ∀ Lf s₂, St σ G ((Lf, fr binds) :: L) s₂ → Wc prog w (A.deeper (callEnv fd Lf a)) (execs body (callEnv fd Lf a)) (fun f s'' => Q (retV f) s'') s₂)
    (hb : bindArgs fd ⟨vals, []⟩ = pure binds := by rfl)
    (hloc : Each (fun x => fd.scope.names.lookup x.1 = some .local) binds := by repeat (first | exact trivial | refine And.intro (by rfl) ?_)) (hnd : apart (binds.map Prod.fst) = true := by first | rfl | kernel_rfl)
    (hbody : fd.body = .stmts body := by rfl) (hcell : fd.scope.names.all (fun x => !(x.2 == .cell)) = true := by first | rfl | kernel_rfl)
    (hco : fd.scope.isCoroutine = false := by rfl) (hgen : fd.scope.isGenerator = false := by rfl) (hk : fd.scope.kind = .function := by rfl) :
    CallC prog w A σ a vals Q s :=
  C_callG F hlim hd h (fun b s' => b = binds ∧ s' = s) (fun A' Q' q => by rw [hb]; exact wpAny_pure (q _ _ ⟨rfl, rfl⟩)) (fun b s₁ e => by
    obtain ⟨rfl, rfl⟩ := e
    exact ⟨L, h, hloc.mem, apart_nodup hnd, k⟩) hbody hcell hco hgen hk
theorem C_callD {a : Addr} {fd : FuncData} {body : List Stmt} {vals : List Value} (binds : List (Str × Value)) {T : Addr} {items : Array Value} {kk : Option (Array Value) → Sem (List (Str × Value))} {Q : Value → Shared → Prop} (F : Fn σ a fd) (hlim : σ.heap.NoLimit) (hd : A.depth ≤ 900) (X : K.In σ.heap) (hT : TupK K T items) (h : St σ G L s)
    (k : ∀ Lf s₂, St σ G ((Lf, fr binds) :: L) s₂ → Wc prog w (A.deeper (callEnv fd Lf a)) (execs body (callEnv fd Lf a)) (fun f s'' => Q (retV f) s'') s₂)
    (hdf : fd.defaults = .ref T := by rfl) (hb : bindArgs fd ⟨vals, []⟩ = seqItems? fd.defaults >>= kk := by rfl) (hk2 : kk (some items) = pure binds := by rfl)
    (hloc : Each (fun x => fd.scope.names.lookup x.1 = some .local) binds := by repeat (first | exact trivial | refine And.intro (by rfl) ?_)) (hnd : apart (binds.map Prod.fst) = true := by first | rfl | kernel_rfl)
    (hbody : fd.body = .stmts body := by rfl) (hcell : fd.scope.names.all (fun x => !(x.2 == .cell)) = true := by first | rfl | kernel_rfl)
    (hco : fd.scope.isCoroutine = false := by rfl) (hgen : fd.scope.isGenerator = false := by rfl) (hk : fd.scope.kind = .function := by rfl) :
    CallC prog w A σ a vals Q s :=
  C_callG F hlim hd h (fun b s' => b = binds ∧ s' = s) (fun A' Q' q => by
    obtain ⟨o, n, ho, hs⟩ := hT
    rw [hb, hdf]
    exact wpAny_bind (wpAny_seqItems (h.keep _ _ (X _ _ ho)) hs (hk2 ▸ wpAny_pure (q _ _ ⟨rfl, rfl⟩)))) (fun b s₁ e => by
    obtain ⟨rfl, rfl⟩ := e
    exact ⟨L, h, hloc.mem, apart_nodup hnd, k⟩) hbody hcell hco hgen hk

-- STATEMENTS AND EXPRESSIONS
theorem c_execsNil {Q : Flow → Shared → Prop} (k : Q .next s) : Wc prog w A (execs [] env) Q s := c_pure k
theorem c_cons {st : Stmt} {rest : List Stmt} {Q : Flow → Shared → Prop} (k : Wc prog w A (exec st env) (fun f s' => match f with | .next => Wc prog w A (execs rest env) Q s' | f => Q f s') s) : Wc prog w A (execs (st :: rest) env) Q s := by
  rw [execs_cons]
  refine c_bind (c_mono k (fun f s' h => ?_))
  cases f with
  | next => exact h
  | _ => exact c_pure h
theorem c_assignName {x : Str} {pos' : Pos} {value : Expr} {pos : Pos} {Q : Flow → Shared → Prop} (k : Wc prog w A (eval value env) (fun v s₁ => W prog w A (storeName env x v) (fun _ => Q .next) s₁) s)
    (hs : swapsWith value (some (.Name x pos')) pos.line env = pure false := by rfl) : Wc prog w A (exec (.Assign [.Name x pos'] value pos) env) Q s := fun Γ p hΓ hc => by
  simp only [exec_Assign_Name env x pos' value pos hs, Sem.wp_bind', Sem.wp_cmd_standAt, Sem.wp_bindName, Sem.wp_pure']
  exact Sem.wp_mono _ Γ _ (fun v _ s₁ h₁ => h₁ Γ _ hΓ) (fun _ _ _ h' => h') _ _ (k Γ _ hΓ hc)
theorem c_if {test : Expr} {body orelse : List Stmt} {pos : Pos} {Q : Flow → Shared → Prop}
    (k : Wc prog w A (isTrue test env (eval test env)) (fun b s₂ => if b then Wc prog w A (execs body env) Q s₂ else Wc prog w A (execs orelse env) Q s₂) s) : Wc prog w A (exec (.If test body orelse pos) env) Q s := by
  rw [arm_exec_If]
  refine c_bind (c_standAt (c_bind (c_mono k (fun b s' h => ?_))))
  cases b <;> exact h
theorem c_ret {e : Expr} {pos : Pos} {Q : Flow → Shared → Prop} (k : Wc prog w A (eval e env) (fun v => Q (.ret v)) s) : Wc prog w A (exec (.Return (some e) pos) env) Q s := by
  rw [exec_Return_some]
  exact c_bind (c_standAt (c_bind (c_mono k (fun v s' h => c_pure h))))
theorem c_attr {value : Expr} {attr : Str} {pos : Pos} {Q : Value → Shared → Prop}
    (k : W prog w A (eval value env) (fun o s₁ => Wc prog w A (getAttr o attr true) Q s₁) s)
    (he : eval (.Attribute value attr pos) env = (do
      let o ← eval value env
      standAt pos.atName
      let r ← holding [o] (getAttr o attr true)
      letTemporaryGo value o r
      pure r) := by with_unfolding_all rfl) : Wc prog w A (eval (.Attribute value attr pos) env) Q s := by
  rw [he]
  refine c_bind (c_of (W.mono k (fun o s₁ h₁ => c_bind (c_standAt (c_bind (c_holding (c_mono h₁ (fun r s₂ h₂ => ?_))))))))
  exact c_bind (c_of (wpAny_letTemporaryGo (c_pure h₂)))
theorem c_call' {func : Expr} {args : List Expr} {pos : Pos} {Q : Value → Shared → Prop}
    (k : W prog w A (eval func env) (fun f s₁ => Wc prog w A (callWith pos f [] (backTo pos (starEach args env)) []) Q s₁) s)
    (he : eval (.Call func args [] pos) env = (do callWith pos (← eval func env) [] (backTo pos (starEach args env)) (backToKw pos (keywordEach [] env))) := by rfl) :
    Wc prog w A (eval (.Call func args [] pos) env) Q s := by
  rw [he]
  exact c_bind (c_of (W.mono k (fun f s₁ h₁ => h₁)))
theorem c_method {o : Expr} {name : Str} {apos pos : Pos} {args : List Expr} {pl : Sem Bool} {Q : Value → Shared → Prop}
    (k : W prog w A (eval o env) (fun ov s₁ => Wc prog w A (getMethod ov name pl) (fun fx s₂ => Wc prog w A (callWith pos fx.1 fx.2 (backTo pos (starEach args env)) []) Q s₂) s₁) s)
    (he : eval (.Call (.Attribute o name apos) args [] pos) env = (do
      let ov ← eval o env
      standAt apos.atName
      let (f, first) ← holding [ov] (getMethod ov name pl)
      callWith pos f first (backTo pos (starEach args env)) []) := by rfl) :
    Wc prog w A (eval (.Call (.Attribute o name apos) args [] pos) env) Q s := by
  rw [he]
  exact c_bind (c_of (W.mono k (fun ov s₁ h₁ => c_bind (c_standAt (c_bind (c_holding (c_mono h₁ (fun fx s₂ h₂ => h₂))))))))
theorem c_try {body : List Stmt} {h₀ : ExceptHandler} {hs : List ExceptHandler} {pos : Pos} {Q : Flow → Shared → Prop} (k : Wc prog w A (execs body env) Q s) : Wc prog w A (exec (.Try body (h₀ :: hs) [] [] pos) env) Q s := by
  rw [arm_exec_Try]
  refine c_bind (c_standAt ?_)
  unfold tryStmt
  simp only [List.isEmpty_nil, if_true, List.isEmpty_cons, Bool.false_and, Bool.false_eq_true, if_false]
  refine c_bind (c_attempt (c_mono k (fun f s₁ h₁ => ?_)))
  cases f with
  | next => exact c_execsNil h₁
  | _ => exact c_pure h₁

open Builtin.ObjectAttr in
theorem c_getMethodBind {x C dx : Addr} {l : List (Str × Value)} {name : Str} {pl : Sem Bool} {Q : Value × List Value → Shared → Prop} {a g c : Addr} (X : K.In σ.heap) (hC : Cls K C) (hf : clsFind K C name = some (some (.ref a), some (.ref g), false)) (hff : findIn K (.ref C) name = some (some (.ref a))) (htf : typeIn K (.ref a) = some (.ref c))
    (h : St σ G L s) (hx : (x, ins C dx) ∈ L) (hd : (dx, sd prog w l) ∈ L) (hv : l.lookup name = none) (hcp : copiedNames.contains name = false)
    (k : ∀ (A' : Around) s', A'.depth ≤ A.depth → A'.handled = A.handled → St σ G L s' → CallC prog w A' σ g [.ref a, .ref x, .ref C] (fun v s₂ => handedIn v = true ∧ Q (v, []) s₂) s') : Wc prog w A (getMethod (.ref x) name pl) Q s := by
  obtain ⟨od, hsd, hod, I⟩ := h.inst hx hd
  have XK := X.keeps h.keep
  unfold getMethod
  refine c_bind (c_of ((I.type.andThen (looks_findIn XK hC.getattribute)).here ?_))
  show Wc prog w A (if (Manifest.canonical "object.__getattribute__" != "object.__getattribute__") = true then _ else _) Q s
  rw [show (Manifest.canonical "object.__getattribute__" != "object.__getattribute__") = false by decide +kernel, if_neg Bool.false_ne_true]
  refine c_bind (c_of ((I.type.andThen (looks_findIn XK hC.getattr)).here ?_))
  show Wc prog w A (if (none : Option Value).isSome = true then _ else _) Q s
  rw [if_neg (by decide)]
  refine c_bind (c_of ((I.type.andThen (looks_findIn XK hff)).here ?_))
  refine c_bind (c_of ((looks_typeIn XK htf).here ?_))
  rw [if_pos (by simp)]
  refine c_bind (c_mono (c_getBind X hC.getattribute hC.getattr (fun od hsd => clsFind_bind hf (by rw [sd_look hsd, hv]) hcp) h hx hd (fun A' s' e1 e2 h' => ?_)) (fun v s' q => c_pure q))
  exact codeC_mono (k A' s' e1 e2 h').2 (fun f s₂ z => by cases f <;> exact z)
end
end Mine

namespace Mine
open PySem PySem.W PySem.Calls PyProof.Rows Builtin Builtin.ObjectAttr

theorem clsFind_data {K : Frag} {C : Addr} {name : Str} {a g : Value} {od : Option Obj} (h : clsFind K C name = some (some a, some g, true)) : findObj K C od name = some (.bind g a) := by
  obtain ⟨cd, h1, h⟩ := Option.bind_eq_some_iff.mp h
  split at h
  · rename_i hd
    obtain ⟨at', h2, h⟩ := Option.bind_eq_some_iff.mp h
    obtain ⟨g', h3, h⟩ := Option.bind_eq_some_iff.mp h
    obtain ⟨d', h4, h⟩ := Option.bind_eq_some_iff.mp h
    cases h
    unfold findObj
    dsimp only at h3 h4
    simp only [h1, h2, h3, h4, Option.bind_some]
  · cases h

/-- an old object's attribute -/
def AttrK (K : Frag) (x C : Addr) (name : Str) (v : Value) : Prop := ∃ ox od dx, K.lookup x = some ox ∧ ox.cls = .ref C ∧ notCls ox = true ∧ ox.dict = some dx ∧ K.lookup dx = some od ∧ findObj K C (some od) name = some (.value v) ∧ handedIn v = true

section
variable {prog : Program} {w : World} {A : Around} {σ s : Shared} {G : Array GenState → Prop} {L L' : List Cell} {env : Env} {K : Frag} {x C dx : Addr} {l : List (Str × Value)} {name : Str}

theorem AttrK.inst {v : Value} (hk : AttrK K x C name v) {h : Heap} (X : K.In h) : ∃ ox od, InstAt h x ox C (some od) ∧ findObj K C (some od) name = some (.value v) ∧ handedIn v = true := by
  obtain ⟨ox, od, dx, h1, h2, h3, h4, h5, h6, h7⟩ := hk
  exact ⟨ox, od, ⟨X _ _ h1, h2, h3, by rw [h4]; exact X _ _ h5⟩, h6, h7⟩
theorem K_getAttr {expr : Bool} {v : Value} {Q : Value → Shared → Prop} (X : K.In σ.heap) (hga : findIn K (.ref C) "__getattribute__" = some (some (.builtin "object.__getattribute__"))) (hk : AttrK K x C name v) (h : St σ G L s) (k : ∀ s', St σ G L s' → Q v s') : W prog w A (getAttr (.ref x) name expr) Q s := by
  have XK := X.keeps h.keep
  obtain ⟨ox, od, I, hf, hh⟩ := hk.inst XK
  exact get_value XK I hga hf hh (k _ (h.toks _))
theorem K_getMethod {pl : Sem Bool} {v : Value} {Q : Value × List Value → Shared → Prop} (X : K.In σ.heap) (hga : findIn K (.ref C) "__getattribute__" = some (some (.builtin "object.__getattribute__"))) (hgt : findIn K (.ref C) "__getattr__" = some none) (hn : findIn K (.ref C) name = some none) (hk : AttrK K x C name v) (h : St σ G L s)
    (k : ∀ s', St σ G L s' → Q (v, []) s') : W prog w A (getMethod (.ref x) name pl) Q s := by
  have XK := X.keeps h.keep
  obtain ⟨ox, od, I, hf, hh⟩ := hk.inst XK
  unfold getMethod
  refine wpAny_bind ((I.type.andThen (looks_findIn XK hga)).here ?_)
  show W prog w A (if (Manifest.canonical "object.__getattribute__" != "object.__getattribute__") = true then _ else _) Q s
  rw [show (Manifest.canonical "object.__getattribute__" != "object.__getattribute__") = false by decide +kernel, if_neg Bool.false_ne_true]
  refine wpAny_bind ((I.type.andThen (looks_findIn XK hgt)).here ?_)
  show W prog w A (if (none : Option Value).isSome = true then _ else _) Q s
  rw [if_neg (by decide)]
  refine wpAny_bind ((I.type.andThen (looks_findIn XK hn)).here ?_)
  exact wpAny_bind (W.mono (K_getAttr X hga hk h k) (fun v s' q => wpAny_pure q))

-- DICTS OF ATTRIBUTES, MET AS DICTS
theorem S_getGet {pl : Sem Bool} {Q : Value × List Value → Shared → Prop} (h : St σ G L s) (hd : (dx, sd prog w l) ∈ L) (k : Q (.builtin "dict.get", [.ref dx]) s) : W prog w A (getMethod (.ref dx) "get" pl) Q s := by
  obtain ⟨o, ho, hk⟩ := h.get hd
  exact getMethod_dict ho hk.1 PySem.F.slot_dict_get PySem.F.type_dict_get k
theorem S_dictGet {t : Tok} {Q : Option Value → Shared → Prop} (h : St σ G L s) (hd : (dx, sd prog w l) ∈ L) (k : ∀ s', St σ G L s' → Q (l.lookup name) s') : W prog w A (dictGet dx (.str name t)) Q s := by
  obtain ⟨o, ho, _, es, ep, hdat, hk, _, hf⟩ := h.get hd
  have hkey : (PySem.strKind prog w).is name (.str name t) = true := PySem.strKind_is prog w name t
  unfold dictGet
  try with_reducible refine wpAny_holding ?_
  refine wpAny_bind ((PySem.strKind prog w).pyHash hkey (wpAny_bind (wpAny_dictFind_of (s := { s with toks := s.toks + 1 }) hkey ho hdat hk ?_)))
  have hk' := k _ (h.toks (s.toks + 1))
  rw [← hf name, findBy_of_findIdx?] at hk'
  cases hi : es.findIdx? fun e => (PySem.strKind prog w).is name e.key with
  | none => rw [hi] at hk'; exact wpAny_pure hk'
  | some i => rw [hi] at hk'; exact wpAny_bind (wpAny_dictEntries (s := { s with toks := s.toks + 1 }) ho hdat (wpAny_pure hk'))
theorem S_get2 {t : Tok} {dv : Value} {Q : Value → Shared → Prop} (h : St σ G L s) (hd : (dx, sd prog w l) ∈ L) (hl : l.lookup name = none) (k : ∀ s', St σ G L s' → Q dv s') : W prog w A (call (.builtin "dict.get") [.ref dx, .str name t, dv]) Q s := by
  obtain ⟨o, ho, hk⟩ := h.get hd
  refine wpAny_call_entry PySem.F.slot_dict_get ⟨_, ho, hk.1.1⟩ PySem.F.entry_dict_get ?_ (PySem.F.args_dict_get_3 _ _ _)
  show W prog w _ (dictGet dx (.str name t) >>= _) _ s
  refine wpAny_bind (S_dictGet h hd (fun s' h' => ?_))
  rw [hl]
  show W prog w _ (Builtin.Dict.missed dx (.str name t) >>= _) _ _
  exact wpAny_bind (wpAny_missed_other (sys_ne (h'.off _ hd).2) (wpAny_pure ⟨dv, rfl, k s' h'⟩))
theorem S_setItem {t : Tok} {v : Value} {Q : Unit → Shared → Prop} (h : St σ G L s) (hp : Put dx (sd prog w l) (sd prog w ((name, v) :: l)) L L') (hz : l.length ≤ 50) (k : ∀ s', St σ G L' s' → Q () s') : W prog w A (setItem (.ref dx) (.str name t) v) Q s := by
  obtain ⟨o, ho, hc, es, ep, hdat, hk, hsz, hf⟩ := h.get hp.mem
  have hkey : (PySem.strKind prog w).is name (.str name t) = true := PySem.strKind_is prog w name t
  have T : s.TypeIs (.ref dx) "dict" := ⟨_, ho, hc.1⟩
  unfold setItem
  try with_reducible refine wpAny_holding ?_
  refine wpAny_bind (wpAny_sequenceKey T (by decide) ?_)
  refine wpAny_bind (wpAny_callSpecial?_slot (name := Str.ofString "__setitem__") T slot_dict_setitem
    (wpAny_call_entry slot_dict_setitem T entry_dict_setitem ?_ (args_dict_setitem _ _ _)))
  show wpAny _ _ (Builtin.Dict.notOrdered "__setitem__" ⟨[.ref dx, .str name t, v], []⟩ >>= _) _ _ s
  refine wpAny_bind (wpAny_notOrdered_dict T ?_)
  show wpAny _ _ (dictSet dx (.str name t) v >>= _) _ _ s
  refine wpAny_bind ?_
  unfold dictSet
  try with_reducible refine wpAny_holding ?_
  refine wpAny_bind ((PySem.strKind prog w).pyHash hkey ?_)
  unfold dictSetHashed
  try with_reducible refine wpAny_holding ?_
  refine wpAny_bind (wpAny_dictFind_of (s := { s with toks := s.toks + 1 }) hkey ho hdat hk ?_)
  cases hi : es.findIdx? fun e => (PySem.strKind prog w).is name e.key with
  | some i =>
    refine wpAny_bind (wpAny_rule (wpAny_bind (wpAny_updateDict (s := { s with toks := s.toks + 1 }) ho hdat (wpAny_point (wpAny_pure ⟨.none, rfl, wpAny_pure (k _ (h.put hp (Heap.SameBut.update ..) ⟨_, Heap.get?_update_self _ ho (Obj.isFreed_of_dict (Obj.data_mapDict hdat _)), ?_⟩))⟩)))))
    refine ⟨⟨(Obj.cls_mapDict _ _).trans hc.1, by obtain ⟨c, d, dt, sl⟩ := o; cases dt <;> exact hc.2⟩, _, ep, Obj.data_mapDict hdat _, hk.modify _ _, by rw [Array.size_modify, List.length_cons]; omega, fun x => ?_⟩
    rw [findBy_modify (PySem.strKind prog w).is (PySem.strKind prog w).inj es name x v i hi, hf, List.lookup_cons]
    by_cases hx : x = name
    · subst hx; simp
    · rw [if_neg hx, beq_eq_false_iff_ne.mpr hx]
  | none =>
    refine wpAny_bind (wpAny_rule (wpAny_updateDictKeys (hz := by rw [sizeLine_eq]; omega) (s := { s with toks := s.toks + 1 }) ho hdat (wpAny_pure ⟨.none, rfl, wpAny_pure (k _ (h.put hp (Heap.SameBut.update ..) ⟨_, Heap.get?_update_self _ ho (Obj.isFreed_of_dict (Obj.data_mapDictKeys hdat _)), ?_⟩))⟩)))
    refine ⟨⟨(Obj.cls_mapDictKeys _ _).trans hc.1, by obtain ⟨c, d, dt, sl⟩ := o; cases dt <;> exact hc.2⟩, _, ep + 1, Obj.data_mapDictKeys hdat _, hk.push hkey _, by rw [Array.size_push, List.length_cons]; omega, fun x => ?_⟩
    rw [findBy_push (PySem.strKind prog w).is es name x _ _ v (KeyKind.is_eq_decide hkey) hi, hf, List.lookup_cons]
    by_cases hx : x = name
    · subst hx; simp
    · rw [if_neg hx, beq_eq_false_iff_ne.mpr hx]
end
end Mine

namespace Mine
open PySem PySem.W PySem.Calls PyProof.Rows

def top (i : Nat) : Stmt := nthS PySem.Challenge.pw_ah5018_01.main.body i
def insB : List Stmt := bodyOf (top 30)
def insScope : Scope := scopeOf (top 30)
def envI (q : Str) (fa : Option Addr) (cd : Value) (fm : Option Addr) (Lf hc : Addr) : Env :=
  { scope := insScope, locals := Lf, globals := mainGlobals, cells := [("height", hc)], qual := q, func := fa, code := cd, frame := fm, builtins := builtinsNs }

def insAt : List (List Int) → List (List Int) → Int → Int → List (List Int) × List (List Int)
  | row :: rows, pl :: pls, p, h => match row.find? (fun o => decide (h < o)) with
    | none => ((row ++ [h]) :: rows, (pl ++ [p]) :: pls)
    | some g => ((row.set (row.idxOf g) h) :: (insAt rows pls p g).1, pl :: (insAt rows pls p g).2)
  | _, _, p, h => ([[h]], [[p]])
def insSt (hs : List Int) (i : Nat) : List (List Int) × List (List Int) := (hs.take i).zipIdx.foldl (fun st x => insAt st.1 st.2 (x.2 : Int) x.1) ([], [])

theorem ins_none {rows pls : List (List Int)} {k : Nat} {row pl : List Int} {p h : Int} (hr : rows[k]? = some row) (hp : pls[k]? = some pl) (hf : row.find? (fun o => decide (h < o)) = none) :
    rows.take k ++ (insAt (rows.drop k) (pls.drop k) p h).1 = rows.set k (row ++ [h]) ∧ pls.take k ++ (insAt (rows.drop k) (pls.drop k) p h).2 = pls.set k (pl ++ [p]) := by
  obtain ⟨h1, rfl⟩ := List.getElem?_eq_some_iff.mp hr
  obtain ⟨h2, rfl⟩ := List.getElem?_eq_some_iff.mp hp
  rw [List.drop_eq_getElem_cons h1, List.drop_eq_getElem_cons h2, insAt, hf, List.set_eq_take_append_cons_drop, List.set_eq_take_append_cons_drop, if_pos h1, if_pos h2]
  exact ⟨rfl, rfl⟩
theorem ins_some {rows pls : List (List Int)} {k : Nat} {row pl : List Int} {p h g : Int} (hr : rows[k]? = some row) (hp : pls[k]? = some pl) (hf : row.find? (fun o => decide (h < o)) = some g) :
    rows.take k ++ (insAt (rows.drop k) (pls.drop k) p h).1 = (rows.set k (row.set (row.idxOf g) h)).take (k + 1) ++ (insAt ((rows.set k (row.set (row.idxOf g) h)).drop (k + 1)) (pls.drop (k + 1)) p g).1 ∧
    pls.take k ++ (insAt (rows.drop k) (pls.drop k) p h).2 = pls.take (k + 1) ++ (insAt ((rows.set k (row.set (row.idxOf g) h)).drop (k + 1)) (pls.drop (k + 1)) p g).2 := by
  obtain ⟨h1, rfl⟩ := List.getElem?_eq_some_iff.mp hr
  obtain ⟨h2, rfl⟩ := List.getElem?_eq_some_iff.mp hp
  have e1 : (rows.set k (rows[k].set (rows[k].idxOf g) h)).drop (k + 1) = rows.drop (k + 1) := by
    rw [List.drop_set, if_pos (Nat.lt_succ_self k)]
  have e2 : (rows.set k (rows[k].set (rows[k].idxOf g) h)).take (k + 1) = rows.take k ++ [rows[k].set (rows[k].idxOf g) h] := by
    rw [List.take_add_one, List.take_set, List.getElem?_set_self h1, List.set_eq_of_length_le (by rw [List.length_take]; omega)]; rfl
  rw [e1, e2, List.drop_eq_getElem_cons h1, List.drop_eq_getElem_cons h2, insAt, hf]
  constructor
  · simp
  · rw [List.take_add_one (l := pls), List.getElem?_eq_getElem h2]; simp only [Option.toList_some, List.append_assoc, List.cons_append, List.nil_append]
theorem ins_end {rows pls : List (List Int)} {p h : Int} (hl : pls.length = rows.length) :
    insAt (rows.drop rows.length) (pls.drop rows.length) p h = insAt ((rows ++ [[]]).drop rows.length) ((pls ++ [[]]).drop rows.length) p h := by
  rw [List.drop_left, ← hl, List.drop_left, hl, List.drop_length, ← hl, List.drop_length]
  rfl
theorem insSt_succ {hs : List Int} {i : Nat} {n : Int} (hi : hs[i]? = some n) : insSt hs (i + 1) = insAt (insSt hs i).1 (insSt hs i).2 i n := by
  unfold insSt
  rw [List.take_add_one, hi]
  obtain ⟨h1, _⟩ := List.getElem?_eq_some_iff.mp hi
  simp only [Option.toList_some, List.zipIdx_append, List.foldl_append, List.length_take, Nat.min_eq_left (Nat.le_of_lt h1), List.zipIdx_cons, List.zipIdx_nil, List.foldl_cons, List.foldl_nil, Nat.zero_add]

theorem idxOf_first {l : List Int} {x : Int} (hx : x ∈ l) : l[l.idxOf x]? = some x ∧ ∀ m y, m < l.idxOf x → l[m]? = some y → y ≠ x := by
  have hlt := List.idxOf_lt_length_of_mem hx
  refine ⟨by rw [List.getElem?_eq_getElem hlt, List.getElem_idxOf hlt], fun m y hm hy => ?_⟩
  have h2 : m < l.findIdx (· == x) := hm
  have h3 := List.not_of_lt_findIdx h2
  obtain ⟨h4, rfl⟩ := List.getElem?_eq_some_iff.mp hy
  simpa using h3
theorem len_set {rows : List (List Int)} {k : Nat} {r' : List Int} {n : Nat} (h : ∀ r ∈ rows, r.length ≤ n) (hr : r'.length ≤ n) : ∀ r ∈ rows.set k r', r.length ≤ n := by
  intro r hm
  rcases List.mem_or_eq_of_mem_set hm with hm | rfl
  · exact h r hm
  · exact hr

theorem bt_enumerate : bootBuiltins "enumerate" = some (.type "enumerate") := by decide +kernel
theorem bt_range : bootBuiltins "range" = some (.type "range") := by decide +kernel
theorem bt_len : bootBuiltins "len" = some (.builtin "len") := by decide +kernel
section
variable {prog : Program} {w : World} {A : Around} {σ s : Shared} {G : Array GenState → Prop} {R : List Cell}

theorem ins_walk {mg : Str → Option Value} (B : Base σ mg) (hA : A.handled = none) (g1 : mg "enumerate" = none) (g2 : mg "range" = none) (g3 : mg "len" = none) {q : Str} {fa : Option Addr} {cd : Value} {fm : Option Addr} {Lf hc hl : Addr} {hs : List Int} {Q : Flow → Shared → Prop} (hn : hs.length ≤ 100)
    (h : St σ G ((Lf, fr [("heights", .ref hl)]) :: (hc, cel none) :: (hl, ils hs) :: R) s)
    (k : ∀ ta ra pa as bs rows pls s', as.length = rows.length → bs.length = rows.length → pls.length = rows.length → rows.length ≤ hs.length → (rows, pls) = insSt hs hs.length →
      St σ G ((ta, tup [.ref ra, .ref pa]) :: (ra, lst (as.map .ref)) :: (pa, lst (bs.map .ref)) :: (hl, ils hs) :: (seg as rows ++ (seg bs pls ++ R))) s' → Q (.ret (.ref ta)) s') :
    W prog w A (execs insB (envI q fa cd fm Lf hc)) Q s := by
  refine T_cons (T_assignSwap ["rows", "places"] (T_tuple (T_args (T_list (T_args0 (T_newList h (fun ra s h => T_args (T_list (T_args0 (T_newList h (fun pa s h => T_args0 (T_newTuple h (fun ta s h => ?_)))))))))))))
  refine T_unpackItems hA h (fun s h => T_order (T_bind ?_))
  refine t_store h (fun s h => T_order (T_bind ?_))
  refine t_store h (fun s h => T_order0 ?_)
  refine T_cons (T_for (T_call (T_builtin B h g1 bt_enumerate ?_)))
  refine T_withT (T_args ?_)
  refine t_name h (T_args0 ?_)
  refine I_enumerate h (fun e it s h => ?_)
  refine T_iterEnm h ?_
  have h := h.pick (E := [_, _, _, _, _, _, _, _]) (R := R) [0, 1, 7, 5, 6, 4, 3]
  refine T_loop (Src.enumInts hA e it hl hs _ _ _) (fun i L' => ∃ as bs cv rows pls, as.length = rows.length ∧ bs.length = rows.length ∧ pls.length = rows.length ∧ rows.length ≤ i ∧ (∀ r ∈ rows, r.length ≤ i) ∧ (∀ r ∈ pls, r.length ≤ i) ∧
      (rows, pls) = insSt hs i ∧ L' = (Lf, fr [("rows", .ref ra), ("places", .ref pa), ("heights", .ref hl)]) :: (hc, cel cv) :: (ra, lst (as.map .ref)) :: (pa, lst (bs.map .ref)) :: (seg as rows ++ (seg bs pls ++ R)))
    h ⟨[], [], none, [], [], rfl, rfl, rfl, Nat.le_refl _, by simp, by simp, rfl, rfl⟩ ?_ ?_
  · rintro i v W L' s hi ⟨n, T, t, u, hni, rfl, rfl⟩ ⟨as, bs, cv, rows, pls, l1, l2, l3, l4, l5, l6, hst, rfl⟩ h
    refine T_assignTuple hA h (fun s h => T_order (T_assignN ?_))
    refine t_store h (fun s h => T_order (T_assignN ?_))
    refine t_storeCell h (fun s h => T_order0 ?_)
    refine T_cons (T_for (T_call (T_builtin B h g2 bt_range ?_)))
    refine T_withT (T_args (T_call (T_builtin B h g3 bt_len ?_)))
    refine T_with1 (T_args ?_)
    refine t_name h (T_args0 ?_)
    refine i_len h (fun t' s h => T_args0 ?_)
    refine T_range1 h (fun r s h => ?_)
    refine T_iterRange0 h (fun it2 s h => ?_)
    have h := h.pick (E := [_, _, _, _, _, _, _, _, _, _]) (R := seg as rows ++ (seg bs pls ++ R)) [0, 2, 3, 4, 6, 7, 8, 9]
    have key := insSt_succ hni
    rw [← hst] at key
    refine T_loop (Src.range0 hA it2 hs.length _ _) (fun k L' => ∃ hcur tc as bs rows pls, as.length = rows.length ∧ bs.length = rows.length ∧ pls.length = rows.length ∧ rows.length ≤ i ∧ (∀ r ∈ rows, r.length ≤ i) ∧ (∀ r ∈ pls, r.length ≤ i) ∧ k ≤ rows.length ∧
        insSt hs (i + 1) = (rows.take k ++ (insAt (rows.drop k) (pls.drop k) i hcur).1, pls.take k ++ (insAt (rows.drop k) (pls.drop k) i hcur).2) ∧
        L' = (e, enm it ((i + 1 : Nat) : Int)) :: (it, lit hl (i + 1)) :: (hl, ils hs) :: (Lf, fr [("place", .int i t), ("rows", .ref ra), ("places", .ref pa), ("heights", .ref hl)]) :: (hc, cel (some (.int hcur tc))) :: (ra, lst (as.map .ref)) :: (pa, lst (bs.map .ref)) :: (seg as rows ++ (seg bs pls ++ R)))
      h ⟨n, u, as, bs, rows, pls, l1, l2, l3, l4, l5, l6, Nat.zero_le _, by simpa using key, rfl⟩ ?_ ?_
    · rintro k v W L' s hk ⟨⟨tk, rfl⟩, rfl⟩ ⟨hcur, tc, as, bs, rows, pls, l1, l2, l3, l4, l5, l6, l7, hst, rfl⟩ h
      refine T_assignN ?_
      refine t_store h (fun s h => ?_)
      -- k == len(rows)
      refine T_cons (W.mono (Q := fun f s' => f = .next ∧ ∃ as bs rows pls fl, as.length = rows.length ∧ bs.length = rows.length ∧ pls.length = rows.length ∧ rows.length ≤ i + 1 ∧ (∀ r ∈ rows, r.length ≤ i) ∧ (∀ r ∈ pls, r.length ≤ i) ∧ k < rows.length ∧ (rows.length ≤ i ∨ rows[k]? = some []) ∧
          insSt hs (i + 1) = (rows.take k ++ (insAt (rows.drop k) (pls.drop k) i hcur).1, pls.take k ++ (insAt (rows.drop k) (pls.drop k) i hcur).2) ∧
          St σ G ((it2, rit (0 + ((k + 1 : Nat) : Int)) ((hs.length : Int) - ((k + 1 : Nat) : Int)) 1) :: (e, enm it ((i + 1 : Nat) : Int)) :: (it, lit hl (i + 1)) :: (hl, ils hs) :: (Lf, fr (("k", .int k fl) :: [("place", .int i t), ("rows", .ref ra), ("places", .ref pa), ("heights", .ref hl)])) :: (hc, cel (some (.int hcur tc))) ::
            (ra, lst (as.map .ref)) :: (pa, lst (bs.map .ref)) :: (seg as rows ++ (seg bs pls ++ R))) s') ?_ ?_)
      · refine T_if (T_isCompare ?_)
        refine t_name h (T_call (T_builtin B h g3 bt_len (T_with1 (T_args ?_))))
        refine t_name h (T_args0 ?_)
        refine t_len h (fun t2 s h => T_eqInt (T_truthyBool ?_))
        by_cases hkk : k = rows.length
        · rw [if_pos (by rw [List.length_map, l1, hkk]; simp)]
          refine T_cons (T_expr (T_method ?_))
          refine t_name h ?_
          refine t_getAppend h ?_
          refine T_with1 (T_args (T_list (T_args0 (I_newList h .nil (fun a s h => T_args0 ?_)))))
          refine t_append h (fun s h => ?_)
          refine T_cons (T_expr (T_method ?_))
          refine t_name h ?_
          refine t_getAppend h ?_
          refine T_with1 (T_args (T_list (T_args0 (I_newList h .nil (fun b s h => T_args0 ?_)))))
          refine t_append h (fun s h => ?_)
          have h := h.perm (perm_mid2 (a, ils []) (b, ils []) [_, _, _, _, _, _, _, _] (seg as rows) (seg bs pls) R)
          rw [← seg_snoc (by omega), ← seg_snoc (by omega)] at h
          refine T_nil ⟨rfl, as ++ [a], bs ++ [b], rows ++ [[]], pls ++ [[]], tk, by simp [l1], by simp [l2], by simp [l3], by simp; omega, ?_, ?_, by simp; omega, .inr (by rw [hkk]; simp), ?_, ?_⟩
          · intro r hr; rcases List.mem_append.mp hr with hr | hr
            · exact l5 r hr
            · simp at hr; simp [hr]
          · intro r hr; rcases List.mem_append.mp hr with hr | hr
            · exact l6 r hr
            · simp at hr; simp [hr]
          · rw [hst, hkk, ins_end l3]
            rw [List.take_left, List.take_length]
            rw [← l3, List.take_length, List.take_left]
          · rw [List.map_append, List.map_append]; exact h
        · rw [if_neg (by rw [List.length_map, l1]; simp; omega)]
          exact T_nil ⟨rfl, as, bs, rows, pls, tk, l1, l2, l3, by omega, l5, l6, by omega, .inl l4, hst, h⟩
      · rintro f s ⟨rfl, as, bs, rows, pls, fl, l1, l2, l3, l4, l5, l6, l7, l8, hst, h⟩
        obtain ⟨a, ha⟩ : ∃ a, as[k]? = some a := ⟨_, List.getElem?_eq_getElem (by omega)⟩
        obtain ⟨b, hb⟩ : ∃ b, bs[k]? = some b := ⟨_, List.getElem?_eq_getElem (by omega)⟩
        obtain ⟨row, hrow⟩ : ∃ row, rows[k]? = some row := ⟨_, List.getElem?_eq_getElem (by omega)⟩
        obtain ⟨pl, hpl⟩ : ∃ pl, pls[k]? = some pl := ⟨_, List.getElem?_eq_getElem (by omega)⟩
        have hrl := l5 row (List.mem_of_getElem? hrow)
        have hpll := l6 pl (List.mem_of_getElem? hpl)
        have ha' : (as.map Value.ref)[(k : Int).toNat]? = some (.ref a) := by simp [ha]
        have hb' : (bs.map Value.ref)[(k : Int).toNat]? = some (.ref b) := by simp [hb]
        have las : as.length ≤ 101 := by omega
        have lbs : bs.length ≤ 101 := by omega
        refine T_cons (T_assignListComp [("height", hc)] rfl (T_sub ?_))
        refine t_name h ?_
        refine t_name h ?_
        refine t_item h (by omega) ha' ?_
        refine i_iter h (fun it3 s h => ?_) (hl := by repeat (first | exact List.mem_append_left _ (mem_seg (by assumption) (by assumption)) | exact List.mem_append_right _ (List.mem_append_left _ (mem_seg (by assumption) (by assumption))) | apply List.Mem.tail))
        refine T_crunUse (P0 := ils []) h (fun Q k => I_newList h .nil (fun a s h => k a s h)) (fun acc Cc s h => ?_)
        obtain ⟨L2, hperm⟩ := perm_mid1 (c := (a, ils row)) (L := seg as rows ++ (seg bs pls ++ R)) (List.mem_append_left _ (mem_seg ha hrow))
        refine T_compStart1 rfl rfl (fun Q' q => t_iterLit h q) ?_
        have h := (h.perm (List.Perm.append_left [_, _, _, _, _, _, _, _, _, _, _] hperm)).pick (E := [_, _, _, _, _, _, _, _, _, _, _, _]) (R := L2) [2, 11, 0, 1, 3, 4, 5, 6, 7, 8, 9, 10]
        refine T_compLoop (turn_L1 ..) (Src.ints hA it3 a row _ _) (fun j L' => L' = (Cc, fr []) :: (acc, ils ((row.take j).filter (fun o => decide (hcur < o)))) :: (it2, rit (0 + ((k + 1 : Nat) : Int)) ((hs.length : Int) - ((k + 1 : Nat) : Int)) 1) :: (e, enm it ((i + 1 : Nat) : Int)) :: (it, lit hl (i + 1)) :: (hl, ils hs) :: (Lf, fr (("k", .int k fl) :: [("place", .int i t), ("rows", .ref ra), ("places", .ref pa), ("heights", .ref hl)])) :: (hc, cel (some (.int hcur tc))) ::
            (ra, lst (as.map .ref)) :: (pa, lst (bs.map .ref)) :: L2) h rfl ?_ ?_
        · rintro j v W L' s hj ⟨x, tx, hx, rfl, rfl⟩ rfl h
          refine T_assignN ?_
          refine t_store h (fun s h => ?_)
          refine T_tests1 (T_isCompare ?_)
          refine t_name h ?_
          refine t_cell h ?_
          refine T_gtInt (T_truthyBool ?_)
          have ef : (row.take (j + 1)).filter (fun o => decide (hcur < o)) = (row.take j).filter (fun o => decide (hcur < o)) ++ (if hcur < x then [x] else []) := by
            rw [List.take_add_one, hx, List.filter_append]
            by_cases hlt : hcur < x <;> simp [hlt]
          by_cases hlt : hcur < x
          · rw [if_pos (decide_eq_true hlt)]
            rw [if_pos hlt] at ef
            refine T_emitList ?_
            refine t_name h ?_
            refine i_append h (fun s h => ?_) (hz := by have := List.length_filter_le (fun o => decide (hcur < o)) (row.take j); rw [List.length_take] at this; omega)
            rw [← ef] at h
            exact ⟨_, rfl, h.frame [_, _] []⟩
          · rw [if_neg (by simpa using hlt)]
            rw [if_neg hlt, List.append_nil] at ef
            rw [← ef] at h
            exact ⟨_, rfl, h.frame [_, _] []⟩
        · rintro L' s rfl h
          rw [List.take_length] at h
          have h := ((h.pick (E := [_, _, _, _, _, _, _, _, _, _, _]) (R := L2) [1, 2, 3, 4, 5, 6, 7, 8, 9, 10, 0]).perm (List.Perm.append_left [_, _, _, _, _, _, _, _, _, _] hperm.symm))
          simp only [List.cons_append, List.nil_append] at h
          refine T_assignN ?_
          refine t_store h (fun s h => ⟨_, _, h, fun s h => ?_⟩)
          generalize hgs : row.filter (fun o => decide (hcur < o)) = gs at h
          have hgl : gs.length ≤ i := by rw [← hgs]; exact Nat.le_trans (List.length_filter_le _ _) hrl
          refine T_cons (T_if (T_isNot (T_isName ?_)))
          refine t_name h ?_
          refine i_truthy h (fun s h => ?_)
          cases gs with
          | nil =>
            rw [show (!!([] : List Int).isEmpty) = true from rfl, if_pos rfl]
            have hf : row.find? (fun o => decide (hcur < o)) = none := by
              rw [List.find?_eq_none]
              intro x hx
              exact List.filter_eq_nil_iff.mp hgs x hx
            obtain ⟨n1, n2⟩ := ins_none (p := (i : Int)) hrow hpl hf
            refine T_cons (T_expr (T_method (T_sub ?_)))
            refine t_name h ?_
            refine t_name h ?_
            refine t_item h (by omega) ha' ?_
            refine i_getAppend h ?_ (hl := by repeat (first | exact List.mem_append_left _ (mem_seg (by assumption) (by assumption)) | exact List.mem_append_right _ (List.mem_append_left _ (mem_seg (by assumption) (by assumption))) | apply List.Mem.tail))
            refine T_with1 (T_args ?_)
            refine t_cell h (T_args0 ?_)
            refine i_append h (fun s h => ?_) (hp := by repeat (first | exact put_more (put_seg _ (by assumption) (by assumption)) _ | exact put_skip (put_more (put_seg _ (by assumption) (by assumption)) _) _ | apply Put.there))
            refine T_cons (T_expr (T_method (T_sub ?_)))
            refine t_name h ?_
            refine t_name h ?_
            refine t_item h (by omega) hb' ?_
            refine i_getAppend h ?_ (hl := by repeat (first | exact List.mem_append_left _ (mem_seg (by assumption) (by assumption)) | exact List.mem_append_right _ (List.mem_append_left _ (mem_seg (by assumption) (by assumption))) | apply List.Mem.tail))
            refine T_with1 (T_args ?_)
            refine t_name h (T_args0 ?_)
            refine i_append h (fun s h => ?_) (hp := by repeat (first | exact put_more (put_seg _ (by assumption) (by assumption)) _ | exact put_skip (put_more (put_seg _ (by assumption) (by assumption)) _) _ | apply Put.there))
            have h := (h.pick (E := [_, _, _, _, _, _, _, _, _]) (R := seg as (rows.set k (row ++ [hcur])) ++ (seg bs (pls.set k (pl ++ [(i : Int)])) ++ R)) [2, 3, 4, 5, 6, 7, 8]).frame [_, _, _] [("rows", .ref ra), ("places", .ref pa), ("heights", .ref hl)]
            exact T_cons (T_break (T_nil ⟨_, ⟨as, bs, _, rows.set k (row ++ [hcur]), pls.set k (pl ++ [(i : Int)]), by rw [List.length_set]; exact l1, by rw [List.length_set]; exact l2, by rw [List.length_set, List.length_set]; exact l3, by rw [List.length_set]; exact l4,
              len_set (fun r hr => Nat.le_succ_of_le (l5 r hr)) (by simp; omega), len_set (fun r hr => Nat.le_succ_of_le (l6 r hr)) (by simp; omega), by rw [hst, n1, n2], rfl⟩, h⟩))
          | cons g gr =>
            rw [if_neg (by simp)]
            refine T_nil ?_
            have hf : row.find? (fun o => decide (hcur < o)) = some g := by
              rw [← List.head?_filter, hgs]; rfl
            obtain ⟨n1, n2⟩ := ins_some (p := (i : Int)) hrow hpl hf
            have hgm : g ∈ row := List.mem_of_find?_eq_some hf
            obtain ⟨f1, f2⟩ := idxOf_first hgm
            have hil := List.idxOf_lt_length_of_mem hgm
            refine T_cons (T_assign ?_)
            refine t_cell h (T_assignOne (T_assignSub (T_sub ?_)))
            refine t_name h ?_
            refine t_name h ?_
            refine t_item h (by omega) ha' ?_
            refine T_method (T_sub ?_)
            refine t_name h ?_
            refine t_name h ?_
            refine t_item h (by omega) ha' ?_
            refine i_getIndex h ?_ (hl := by repeat (first | exact List.mem_append_left _ (mem_seg (by assumption) (by assumption)) | exact List.mem_append_right _ (List.mem_append_left _ (mem_seg (by assumption) (by assumption))) | apply List.Mem.tail))
            refine T_with1 (T_args (T_sub ?_))
            refine t_name h (T_int h (fun t2 s h => ?_))
            refine i_item h (by decide) (x := g) rfl (fun t2 => T_args0 ?_)
            refine i_index h f1 f2 (fun t2 s h => ?_) (hl := by repeat (first | exact List.mem_append_left _ (mem_seg (by assumption) (by assumption)) | exact List.mem_append_right _ (List.mem_append_left _ (mem_seg (by assumption) (by assumption))) | apply List.Mem.tail))
            refine i_setItem (ns := row) h (by omega) (by omega) (fun s h => ?_) (hp := by repeat (first | exact put_more (put_seg _ (by assumption) (by assumption)) _ | exact put_skip (put_more (put_seg _ (by assumption) (by assumption)) _) _ | apply Put.there))
            simp only [Int.toNat_natCast] at h
            refine T_cons (T_assignName (T_sub ?_))
            refine t_name h (T_int h (fun t2 s h => ?_))
            refine i_item h (by decide) (x := g) rfl (fun t3 => ?_)
            refine t_storeCell h (fun s h => ?_)
            have h := (h.pick (E := [_, _, _, _, _, _, _, _, _]) (R := seg as (rows.set k (row.set (row.idxOf g) hcur)) ++ (seg bs pls ++ R)) [1, 2, 3, 4, 5, 6, 7, 8]).frame [_, _, _, _] [("place", .int i t), ("rows", .ref ra), ("places", .ref pa), ("heights", .ref hl)]
            exact T_nil ⟨_, ⟨g, t3, as, bs, rows.set k (row.set (row.idxOf g) hcur), pls, by rw [List.length_set]; exact l1, by rw [List.length_set]; exact l2, by rw [List.length_set]; exact l3, by rw [List.length_set]; exact l8.elim id (fun z => by rw [z] at hrow; cases hrow; cases hgm),
              len_set l5 (by rw [List.length_set]; exact hrl), l6, by rw [List.length_set]; omega, by rw [hst, n1, n2], rfl⟩, h⟩
    · rintro L' s ⟨hcur, tc, as, bs, rows, pls, l1, l2, l3, l4, l5, l6, l7, hst, rfl⟩ h
      omega
  · rintro L' s ⟨as, bs, cv, rows, pls, l1, l2, l3, l4, l5, l6, hst, rfl⟩ h
    refine T_cons (T_ret (T_tuple (T_args ?_)))
    refine t_name h (T_args ?_)
    refine t_name h (T_args0 (T_newTuple h (fun tb s h => ?_)))
    exact k tb ra pa as bs rows pls s l1 l2 l3 l4 hst (h.pick (E := [_, _, _, _, _, _]) (R := seg as rows ++ (seg bs pls ++ R)) [0, 4, 5, 1])

theorem call_ins {mg : Str → Option Value} {K : Frag} {a : Addr} (FK : FnK K a (top 30) .none) (X : K.In σ.heap)
    (B : Base σ mg) (hA : A.handled = none) (hd : A.depth ≤ 900) (g1 : mg "enumerate" = none) (g2 : mg "range" = none) (g3 : mg "len" = none) {hl : Addr} {hs : List Int} {Q : Value → Shared → Prop} (hn : hs.length ≤ 100)
    (h : St σ G ((hl, ils hs) :: R) s)
    (k : ∀ ta ra pa as bs rows pls s', as.length = rows.length → bs.length = rows.length → pls.length = rows.length → rows.length ≤ hs.length → (rows, pls) = insSt hs hs.length →
      St σ G ((ta, tup [.ref ra, .ref pa]) :: (ra, lst (as.map .ref)) :: (pa, lst (bs.map .ref)) :: (hl, ils hs) :: (seg as rows ++ (seg bs pls ++ R))) s' → Q (.ref ta) s') :
    CallF prog w A σ a [.ref hl] Q s := by
  obtain ⟨nm, ql, kV, doc, pm, an, cdv, ct, F⟩ := FK.fn X
  refine T_callC [("heights", .ref hl)] [("heights", .ref hl)] (fun n => [("height", n)]) (fun _ => none) F B.lim hd h (fun Lf s h => ?_)
  exact ins_walk (A := A.deeper (callEnvC (fnOf nm ql (paramsOf (top 30)) insB insScope .none kV doc pm an cdv ct) Lf a)) (q := ql ++ ".<locals>.") (fa := some a) (cd := cdv) (fm := some Lf) (Q := fun f s'' => Q (retV f) s'') B hA g1 g2 g3 hn h k
end
end Mine

namespace Mine
open PySem PySem.W PySem.Calls PyProof.Rows

def meth (i j : Nat) : Stmt := nthS (bodyOf (top i)) j
def segD (prog : Program) (w : World) (as : List Addr) (rs : List (List (Int × Value))) : List Cell := List.zipWith (fun a r => (a, dct prog w r)) as rs
def refs (ns : List Int) (as : List Addr) : List (Int × Value) := List.zipWith (fun n a => (n, Value.ref a)) ns as

theorem refs_fst {ns : List Int} {as : List Addr} (h : as.length = ns.length) : (refs ns as).map (·.1) = ns := by
  unfold refs
  rw [List.map_zipWith]
  have : ∀ (ns : List Int) (as : List Addr), as.length = ns.length → List.zipWith (fun n _ => n) ns as = ns := by
    intro ns
    induction ns with
    | nil => intro as _; rfl
    | cons n r ih => intro as h; cases as with
      | nil => simp at h
      | cons a t => simp only [List.zipWith_cons_cons]; rw [ih t (by simpa using h)]
  exact this ns as h
theorem refs_at {ns : List Int} {as : List Addr} {i : Nat} {n : Int} {a : Addr} (hn : ns[i]? = some n) (ha : as[i]? = some a) (hl : as.length = ns.length) (hd : ns.Nodup) : valueAt (refs ns as) n = some (.ref a) := by
  refine valueAt_of_get (i := i) (by rw [refs_fst hl]; exact hd) ?_
  simp [refs, List.getElem?_zipWith, hn, ha]
theorem mem_segD {prog : Program} {w : World} {as : List Addr} {rs : List (List (Int × Value))} {k : Nat} {a : Addr} {r : List (Int × Value)} (ha : as[k]? = some a) (hr : rs[k]? = some r) : (a, dct prog w r) ∈ segD prog w as rs := by
  refine List.mem_of_getElem? (i := k) ?_
  simp [segD, List.getElem?_zipWith, ha, hr]

def itBody : List Stmt := bodyOf (meth 16 1)
def itScope : Scope := scopeOf (meth 16 1)
def envM (sc : Scope) (cl : List (Str × Addr)) (q : Str) (fa : Option Addr) (cd : Value) (fm : Option Addr) (Lf : Addr) : Env :=
  { scope := sc, locals := Lf, globals := mainGlobals, cells := cl, qual := q, func := fa, code := cd, frame := fm, builtins := builtinsNs }

/-- the cells of a view: the view, its dict, the two dicts of dicts, the inner dicts -/
def vw (prog : Program) (w : World) (vx C vd Sd Pd : Addr) (skv : List (Int × Value)) (ns : List Int) (pa : List Addr) (pr : List (List (Int × Value))) : List Cell :=
  (vx, ins C vd) :: (vd, sd prog w [("_weight", .none), ("_nodes", .ref Sd), ("_pred", .ref Pd), ("_succ", .ref Sd)]) :: (Sd, dct prog w skv) :: (Pd, dct prog w (refs ns pa)) :: segD prog w pa pr
def vwE (prog : Program) (w : World) (vx C vd Sd Pd : Addr) (skv : List (Int × Value)) (ep : Nat) (ns : List Int) (pa : List Addr) (pr : List (List (Int × Value))) : List Cell :=
  (vx, ins C vd) :: (vd, sd prog w [("_weight", .none), ("_nodes", .ref Sd), ("_pred", .ref Pd), ("_succ", .ref Sd)]) :: (Sd, dcE prog w skv ep) :: (Pd, dct prog w (refs ns pa)) :: segD prog w pa pr

section
variable {prog : Program} {w : World} {A : Around} {σ s : Shared} {G Gr : Array GenState → Prop} {R : List Cell} {K : Frag}

def itI (prog : Program) (w : World) (Lf wc vx C vd Sd Pd : Addr) (skv : List (Int × Value)) (ns : List Int) (pa : List Addr) (pr : List (List (Int × Value))) : Nat → List Cell → Prop
  | 0, X => X = (Lf, fr [("self", .ref vx)]) :: (wc, cel none) :: vw prog w vx C vd Sd Pd skv ns pa pr
  | i + 1, X => ∃ it ep, X = (it, kit Sd (i + 1) skv.length ep) :: (Lf, fr [("self", .ref vx)]) :: vwE prog w vx C vd Sd Pd skv ep ns pa pr
def itV (ns : List Int) (pr : List (List (Int × Value))) (i : Nat) (v : Value) (W : List Cell) : Prop := ∃ n T t u r, ns[i]? = some n ∧ pr[i]? = some r ∧ v = .ref T ∧ W = [(T, tup [.int n t, .int r.length u])]

structure ViewFacts (K : Frag) (C : Addr) : Prop where
  cls : Cls K C
  weight : clsFind K C "_weight" = some (none, none, false)
  nodes : clsFind K C "_nodes" = some (none, none, false)
  pred : clsFind K C "_pred" = some (none, none, false)
  succ : clsFind K C "_succ" = some (none, none, false)

def forTg : Stmt → Expr
  | .For t .. => t
  | _ => .Name "" default
def forBody : Stmt → List Stmt
  | .For _ _ b .. => b
  | _ => []
def ifBody : Stmt → List Stmt
  | .If _ b .. => b
  | _ => []
def itFor : Stmt := nthS (ifBody (nthS itBody 1)) 0

theorem vwE_vw {vx C vd Sd Pd : Addr} {skv : List (Int × Value)} {ep : Nat} {ns : List Int} {pa : List Addr} {pr : List (List (Int × Value))} {L : List Cell} (h : St σ G (vwE prog w vx C vd Sd Pd skv ep ns pa pr ++ L) s) : St σ G (vw prog w vx C vd Sd Pd skv ns pa pr ++ L) s :=
  St.shut (F := [_, _]) h (fun o ho => dcE_dct ho)

theorem it_turns {mg : Str → Option Value} (B : Base σ mg) (X : K.In σ.heap) (hA : A.handled = none) (g3 : mg "len" = none) {C : Addr} (VF : ViewFacts K C) {q : Str} {fa : Option Addr} {cd : Value} {fm : Option Addr} {Lf wc vx vd Sd Pd : Addr} {skv : List (Int × Value)} {ns : List Int} {pa : List Addr} {pr : List (List (Int × Value))}
    (hs : skv.map (·.1) = ns) (hn : ns.Nodup) (h1 : pa.length = ns.length) (h2 : pr.length = ns.length) (hz : ∀ r ∈ pr, r.length ≤ 100) {it : Addr} {ep : Nat}
    {c : Code} {kk : Flow → Sem Fin} {HH : Value → Sem Fin} {p0 : Pos} (hc : ∀ L s, St σ Gr (vw prog w vx C vd Sd Pd skv ns pa pr ++ L) s → SegZ (model prog w) A (Zp prog w A σ Gr skv.length (fun X => X = vw prog w vx C vd Sd Pd skv ns pa pr) (itI prog w Lf wc vx C vd Sd Pd skv ns pa pr) (itV ns pr) 0 L) c (kk .next) [] s) :
    ∀ m i L s, i + m = skv.length → St σ Gr (((it, kit Sd i skv.length ep) :: (Lf, fr [("self", .ref vx)]) :: vwE prog w vx C vd Sd Pd skv ep ns pa pr) ++ L) s →
      SegZ (model prog w) A (Zp prog w A σ Gr skv.length (fun X => X = vw prog w vx C vd Sd Pd skv ns pa pr) (itI prog w Lf wc vx C vd Sd Pd skv ns pa pr) (itV ns pr) m L)
        (.forLoop (forTg itFor) (.ref it) (forBody itFor) [] (envM itScope [("weight", wc)] q fa cd fm Lf)) ((model prog w).den (.forLoop (forTg itFor) (.ref it) (forBody itFor) [] (envM itScope [("weight", wc)] q fa cd fm Lf)))
        [.ret (ownBack (envM itScope [("weight", wc)] q fa cd fm Lf) kk HH id id) none (id false) (id []) c p0 []] s := by
  have hlen : skv.length = ns.length := by rw [← hs, List.length_map]
  intro m
  induction m with
  | zero =>
    intro i L s hi h
    obtain rfl : i = skv.length := by omega
    refine z_turn ?_
    refine W.mono ((Src.dict (σ := σ) (G := Gr) (A := A.over _ _) (by exact hA) it Sd skv ep "n" default).stop (K := fun s₁ => SegZ (model prog w) A (Zp prog w A σ Gr skv.length (fun X => X = vw prog w vx C vd Sd Pd skv ns pa pr) (itI prog w Lf wc vx C vd Sd Pd skv ns pa pr) (itV ns pr) 0 L) (.block [] (envM itScope [("weight", wc)] q fa cd fm Lf)) (leafOf (.ok .next)) [.ret (ownBack (envM itScope [("weight", wc)] q fa cd fm Lf) kk HH id id) none (id false) (id []) c p0 []] s₁)
      (L := (Lf, fr [("self", .ref vx)]) :: (vx, ins C vd) :: (vd, sd prog w [("_weight", .none), ("_nodes", .ref Sd), ("_pred", .ref Pd), ("_succ", .ref Sd)]) :: (Pd, dct prog w (refs ns pa)) :: (segD prog w pa pr ++ L)) ?_ (fun s' h' => z_back (hc L s' ?_))) (fun r s₁ hr => ?_)
    · exact h.pick (E := [_, _, _, _, _, _]) (R := segD prog w pa pr ++ L) [0, 4, 1, 2, 3, 5]
    · exact h'.pick (E := [_, _, _, _, _]) (R := segD prog w pa pr ++ L) [2, 3, 0, 4]
    · cases r with
      | none => exact hr
      | some v => exact hr.elim
  | succ m ih =>
    intro i L s hi h
    refine z_turn ?_
    have hlt : i < skv.length := by omega
    refine W.mono ((Src.dict (σ := σ) (G := Gr) (A := A.over _ _) (by exact hA) it Sd skv ep "n" default).next (i := i) (K := fun v s₁ => W prog w (A.over (.forLoop (forTg itFor) (.ref it) (forBody itFor) [] (envM itScope [("weight", wc)] q fa cd fm Lf)) [.ret (ownBack (envM itScope [("weight", wc)] q fa cd fm Lf) kk HH id id) none (id false) (id []) c p0 []]) (assign (forTg itFor) (envM itScope [("weight", wc)] q fa cd fm Lf) v) (fun _ s₃ =>
          SegZ (model prog w) A (Zp prog w A σ Gr skv.length (fun X => X = vw prog w vx C vd Sd Pd skv ns pa pr) (itI prog w Lf wc vx C vd Sd Pd skv ns pa pr) (itV ns pr) (m + 1) L) (.forLoop (forTg itFor) (.ref it) (forBody itFor) [] (envM itScope [("weight", wc)] q fa cd fm Lf)) ((execs (forBody itFor) (envM itScope [("weight", wc)] q fa cd fm Lf)).wrap (forK (forTg itFor) (.ref it) (forBody itFor) (envM itScope [("weight", wc)] q fa cd fm Lf)) (noted (envM itScope [("weight", wc)] q fa cd fm Lf)) id id) [.ret (ownBack (envM itScope [("weight", wc)] q fa cd fm Lf) kk HH id id) none (id false) (id []) c p0 []] s₃) s₁)
      (L := (Lf, fr [("self", .ref vx)]) :: (vx, ins C vd) :: (vd, sd prog w [("_weight", .none), ("_nodes", .ref Sd), ("_pred", .ref Pd), ("_succ", .ref Sd)]) :: (Pd, dct prog w (refs ns pa)) :: (segD prog w pa pr ++ L)) hlt ?_ (fun v W s' hV h' => ?_)) (fun r s₁ hr => ?_)
    · exact h.pick (E := [_, _, _, _, _, _]) (R := segD prog w pa pr ++ L) [0, 4, 1, 2, 3, 5]
    · obtain ⟨n, t, hni, rfl, rfl⟩ := hV
      rw [hs] at hni
      obtain ⟨a, ha⟩ : ∃ a, pa[i]? = some a := ⟨_, List.getElem?_eq_getElem (by omega)⟩
      obtain ⟨r, hr⟩ : ∃ r, pr[i]? = some r := ⟨_, List.getElem?_eq_getElem (by omega)⟩
      have h := h'
      refine T_assignN ?_
      refine t_store h (fun s h => ?_)
      refine z_st (T_assignName (T_sub (T_attr ?_)))
      refine t_name h ?_
      refine T_getOwn X VF.cls VF.pred h (x := vx) (by repeat (first | exact List.Mem.head _ | apply List.Mem.tail)) (by repeat (first | exact List.Mem.head _ | apply List.Mem.tail)) rfl rfl (fun s h => ?_)
      refine t_name h ?_
      refine D_item (d := Pd) h (by repeat (first | exact List.Mem.head _ | apply List.Mem.tail)) (refs_at hni ha h1 hn) (fun s h => ?_)
      refine t_store h (fun s h => ?_)
      refine z_yieldStmt rfl rfl rfl ?_
      refine T_tuple (T_args ?_)
      refine t_name h (T_args (T_call (T_builtin B h g3 bt_len ?_)))
      refine T_with1 (T_args ?_)
      refine t_name h (T_args0 ?_)
      refine D_len h (List.Mem.tail _ (List.Mem.tail _ (List.Mem.tail _ (List.Mem.tail _ (List.Mem.tail _ (List.Mem.tail _ (List.mem_append_left _ (mem_segD ha hr)))))))) (by have := hz r (List.mem_of_getElem? hr); omega) (fun t2 s h => T_args0 (T_newTuple h (fun T s h => ?_)))
      intro e' hq' he hres
      obtain ⟨g', l', k', c', p', fs', rfl⟩ := he
      have h := ((h.pick (E := [_, _, _, _, _, _, _]) (R := segD prog w pa pr ++ L) [1, 3, 4, 5, 2, 6, 0]).frame [_] [("self", .ref vx)]).perm (List.Perm.append_left [_, _, _, _, _, _] (List.perm_middle (a := (T, tup [.int n t, .int r.length t2])) (l₁ := segD prog w pa pr) (l₂ := L)).symm)
      refine ⟨.ref T, g', l', k', c', p', fs', [(T, tup [.int n t, .int r.length t2])], (it, kit Sd (i + 1) skv.length ep) :: (Lf, fr [("self", .ref vx)]) :: vwE prog w vx C vd Sd Pd skv ep ns pa pr, rfl, hq', ?_, ?_, h, GoodZ_of (fun s L2 h2 => hres _ _ s (z_nil (z_again rfl (ih (i + 1) L2 s (by omega) h2))))⟩
      · rw [show skv.length - (m + 1) = i by omega]
        exact ⟨n, T, t, t2, r, hni, hr, rfl, rfl⟩
      · rw [show skv.length - m = i + 1 by omega]
        exact ⟨it, ep, rfl⟩
    · cases r with
      | none => exact hr.elim
      | some v => exact hr

theorem it_good {mg : Str → Option Value} (B : Base σ mg) (X : K.In σ.heap) (hA : A.handled = none) (g3 : mg "len" = none) {C : Addr} (VF : ViewFacts K C) {q : Str} {fa : Option Addr} {cd : Value} {fm : Option Addr} {Lf wc vx vd Sd Pd : Addr} {skv : List (Int × Value)} {ns : List Int} {pa : List Addr} {pr : List (List (Int × Value))}
    (hs : skv.map (·.1) = ns) (hn : ns.Nodup) (h1 : pa.length = ns.length) (h2 : pr.length = ns.length) (hz : ∀ r ∈ pr, r.length ≤ 100) :
    GoodZ prog w A σ Gr skv.length (fun X => X = vw prog w vx C vd Sd Pd skv ns pa pr) (itI prog w Lf wc vx C vd Sd Pd skv ns pa pr) (itV ns pr) skv.length ((Lf, fr [("self", .ref vx)]) :: (wc, cel none) :: vw prog w vx C vd Sd Pd skv ns pa pr) (.fresh (.func itBody (envM itScope [("weight", wc)] q fa cd fm Lf))) := by
  refine GoodZ_of (fun s L h => z_func ?_)
  refine z_st (T_assignName (T_attr ?_))
  refine t_name h ?_
  refine T_getOwn X VF.cls VF.weight h (x := vx) (by repeat (first | exact List.Mem.head _ | apply List.Mem.tail)) (by repeat (first | exact List.Mem.head _ | apply List.Mem.tail)) rfl rfl (fun s h => ?_)
  refine t_storeCell h (fun s h => ?_)
  refine z_cons (z_if (T_isCompare ?_))
  refine t_cell h (T_none (T_isNone (T_truthyBool ?_)))
  rw [if_pos (by decide)]
  refine z_cons (z_for (T_attr ?_))
  refine t_name h ?_
  refine T_getOwn X VF.cls VF.nodes h (x := vx) (by repeat (first | exact List.Mem.head _ | apply List.Mem.tail)) (by repeat (first | exact List.Mem.head _ | apply List.Mem.tail)) rfl rfl (fun s h => ?_)
  have h := h.pick (E := [_, _, _, _]) (R := (Sd, dct prog w skv) :: (Pd, dct prog w (refs ns pa)) :: (segD prog w pa pr ++ L)) [0, 2, 3]
  refine D_iter (F := [_, _, _]) h (fun it ep s h p => ?_)
  refine it_turns B X hA g3 VF hs hn h1 h2 hz (fun L s h => ?_) skv.length 0 L s (by omega) h
  show SegZ _ _ _ _ (funK .next) [] _
  exact z_fin ⟨rfl, _, rfl, h⟩

/-- iter(view) -/
theorem it_iter {mg : Str → Option Value} (B : Base σ mg) (X : K.In σ.heap) (hA : A.handled = none) (hd : A.depth ≤ 890) (g3 : mg "len" = none) {C a : Addr} (VF : ViewFacts K C) (FK : FnK K a (meth 16 1) .none)
    (hs0 : findIn K (.ref C) "__iter__" = some (some (.ref a))) (hf0 : isFn K (.ref a) = true)
    {vx vd Sd Pd : Addr} {skv : List (Int × Value)} {ns : List Int} {pa : List Addr} {pr : List (List (Int × Value))} {F : Nat → GenState → Prop} {ex : List Nat} (hF : ∀ j, j ∉ ex → F j .finished)
    (hs : skv.map (·.1) = ns) (hn : ns.Nodup) (h1 : pa.length = ns.length) (h2 : pr.length = ns.length) (hz : ∀ r ∈ pr, r.length ≤ 100) {L : List Cell} {Q : Value → Shared → Prop}
    (h : St σ (GS F ex) (vw prog w vx C vd Sd Pd skv ns pa pr ++ L) s)
    (k : ∀ ag g Lf wc s', F g .finished → St σ (GS (upF F g (GoodZ prog w A.in1 σ (GS (upF F g (· = .running)) (g :: ex)) skv.length (fun X => X = vw prog w vx C vd Sd Pd skv ns pa pr) (itI prog w Lf wc vx C vd Sd Pd skv ns pa pr) (itV ns pr) skv.length ((Lf, fr [("self", .ref vx)]) :: (wc, cel none) :: vw prog w vx C vd Sd Pd skv ns pa pr))) (g :: ex))
      (((ag, gob g) :: (Lf, fr [("self", .ref vx)]) :: (wc, cel none) :: vw prog w vx C vd Sd Pd skv ns pa pr) ++ L) s' → Q (.ref ag) s') : W prog w A (pyIter (.ref vx)) Q s := by
  obtain ⟨nm, ql, kV, doc, pm, an, cdv, ct, Fa⟩ := FK.fn X
  refine wpAny_pyIter_own X hs0 hf0 h (x := vx) (dx := vd) (by exact List.Mem.head _) (by exact List.Mem.tail _ (List.Mem.head _)) ?_
  refine T_callGenC [("self", .ref vx)] [("self", .ref vx)] (fun n => [("weight", n)]) (fun _ => none) Fa B.lim (by omega) h (fun Lf ag g s₂ h' => ?_)
  obtain ⟨gens0, hG, hg, hpush⟩ := h'.gens
  have good := it_good (prog := prog) (w := w) (Gr := GS (upF F g (· = .running)) (g :: ex)) B X (A := A.in1) hA g3 VF (q := ql ++ ".<locals>.") (fa := some a) (cd := cdv) (fm := some Lf) (Lf := Lf) (wc := Lf + 1) (vx := vx) (vd := vd) (Sd := Sd) (Pd := Pd) hs hn h1 h2 hz
  have h3 := h'.regen (gens' := s₂.gens) (G' := GS (upF F g (GoodZ prog w A.in1 σ (GS (upF F g (· = .running)) (g :: ex)) skv.length (fun X => X = vw prog w vx C vd Sd Pd skv ns pa pr) (itI prog w Lf (Lf + 1) vx C vd Sd Pd skv ns pa pr) (itV ns pr) skv.length ((Lf, fr [("self", .ref vx)]) :: (Lf + 1, cel none) :: vw prog w vx C vd Sd Pd skv ns pa pr))) (g :: ex)) (by
    rw [hpush, hg]
    rw [hg] at good
    exact hG.push good)
  have hgx : F g .finished := hF g (fun hm => by
    have := hG.2 g hm
    rw [hg] at this
    exact Nat.lt_irrefl _ this)
  have hT : s₂.TypeIs (.ref ag) "generator" := by
    obtain ⟨o, ho, nm, qn, e1, _⟩ := h'.get (.head _)
    exact ⟨o, ho, e1⟩
  refine wpAny_specialOf hT slot_gen_next.lookup ?_
  exact k ag g Lf (Lf + 1) s₂ hgx h3
end
end Mine

namespace Mine
open PySem PySem.W PySem.Calls PyProof.Rows

def cDi : Addr := 936
def cIn : Addr := 330

/-- what the program's heap holds of the graph's classes -/
structure NF (K : Frag) : Prop where
  di : Cls K cDi
  diInit : findIn K (.ref cDi) "__init__" = some (some (.ref 783))
  fInit : FnK K 783 (meth 27 0) (.ref 776)
  tInit : TupK K 776 #[.none]
  gGraph : clsFind K cDi "graph" = some (none, none, false)
  gNode : clsFind K cDi "_node" = some (none, none, false)
  gAdj : clsFind K cDi "_adj" = some (none, none, false)
  gPred : clsFind K cDi "_pred" = some (none, none, false)
  gSucc : clsFind K cDi "_succ" = some (none, none, false)
  sGraph : takerIn K cDi "graph" = some none
  sNode : takerIn K cDi "_node" = some none
  sAdj : takerIn K cDi "_adj" = some none
  sPred : takerIn K cDi "_pred" = some none
  sSucc : takerIn K cDi "_succ" = some none
  fac1 : findIn K (.ref cDi) "graph_attr_dict_factory" = some (some (.type "dict"))
  fac2 : findIn K (.ref cDi) "node_dict_factory" = some (some (.type "dict"))
  fac3 : findIn K (.ref cDi) "adjlist_outer_dict_factory" = some (some (.type "dict"))
  fac4 : findIn K (.ref cDi) "adjlist_inner_dict_factory" = some (some (.type "dict"))
  fac5 : findIn K (.ref cDi) "node_attr_dict_factory" = some (some (.type "dict"))
  fac6 : findIn K (.ref cDi) "edge_attr_dict_factory" = some (some (.type "dict"))
  mAddN : findIn K (.ref cDi) "add_nodes_from" = some (some (.ref 827))
  fAddN : FnK K 827 (meth 27 5) .none
  mAddE : findIn K (.ref cDi) "add_edges_from" = some (some (.ref 848))
  fAddE : FnK K 848 (meth 27 8) .none
  mNei : findIn K (.ref cDi) "neighbors" = some (some (.ref 855))
  fNei : FnK K 855 (meth 27 9) .none
  mMul : findIn K (.ref cDi) "is_multigraph" = some (some (.ref 919))
  fMul : FnK K 919 (meth 27 17) .none
  mDir : findIn K (.ref cDi) "is_directed" = some (some (.ref 926))
  fDir : FnK K 926 (meth 27 18) .none
  mCon : findIn K (.ref cDi) "__contains__" = some (some (.ref 589))
  fCon : FnK K 589 (meth 25 9) .none

/-- the net's attributes -/
def ndl (Sd Pd Nd Gd : Addr) : List (Str × Value) := [("_succ", .ref Sd), ("_pred", .ref Pd), ("_adj", .ref Sd), ("_node", .ref Nd), ("graph", .ref Gd)]

section
variable {prog : Program} {w : World} {A : Around} {σ s : Shared} {G : Array GenState → Prop} {L R : List Cell} {K : Frag} {mg : Str → Option Value}

theorem call_isDirected (B : Base σ mg) (X : K.In σ.heap) (N : NF K) (hd : A.depth ≤ 880) {v : Value} {Q : Value → Shared → Prop} (h : St σ G L s) (k : ∀ s', St σ G L s' → Q (.bool true) s') : CallF prog w A σ 926 [v] Q s := by
  obtain ⟨nm, ql, kV, doc, pm, an, cdv, ct, F⟩ := N.fDir.fn X
  refine T_callP [("self", v)] F B.lim (by omega) h (fun Lf s h => ?_)
  exact T_cons (T_ret (T_bool (k s (h.sub (List.sublist_cons_self _ _)))))
theorem call_isMulti (B : Base σ mg) (X : K.In σ.heap) (N : NF K) (hd : A.depth ≤ 880) {v : Value} {Q : Value → Shared → Prop} (h : St σ G L s) (k : ∀ s', St σ G L s' → Q (.bool false) s') : CallF prog w A σ 919 [v] Q s := by
  obtain ⟨nm, ql, kV, doc, pm, an, cdv, ct, F⟩ := N.fMul.fn X
  refine T_callP [("self", v)] F B.lim (by omega) h (fun Lf s h => ?_)
  exact T_cons (T_ret (T_bool (k s (h.sub (List.sublist_cons_self _ _)))))
/-- n in net -/
theorem call_contains (B : Base σ mg) (X : K.In σ.heap) (N : NF K) (hd : A.depth ≤ 880) {x nd Nd : Addr} {l : List (Str × Value)} (hl : l.lookup (Str.ofString "_node") = some (.ref Nd)) {nkv : List (Int × Value)} {n : Int} {t : Tok} {Q : Value → Shared → Prop}
    (h : St σ G ((x, ins cDi nd) :: (nd, sd prog w l) :: (Nd, dct prog w nkv) :: R) s)
    (k : ∀ s', St σ G ((x, ins cDi nd) :: (nd, sd prog w l) :: (Nd, dct prog w nkv) :: R) s' → Q (.bool (valueAt nkv n).isSome) s') : CallF prog w A σ 589 [.ref x, .int n t] Q s := by
  obtain ⟨nm, ql, kV, doc, pm, an, cdv, ct, F⟩ := N.fCon.fn X
  refine T_callP [("self", .ref x), ("n", .int n t)] F B.lim (by omega) h (fun Lf s h => ?_)
  refine T_cons (T_try (T_cons (T_ret (T_compare ?_))))
  refine t_name h (T_attr ?_)
  refine t_name h ?_
  refine T_getOwn X N.di N.gNode h (x := x) (dx := nd) (by repeat (first | exact List.Mem.head _ | apply List.Mem.tail)) (by repeat (first | exact List.Mem.head _ | apply List.Mem.tail)) hl rfl (fun s h => ?_)
  refine D_in (d := Nd) h (by repeat (first | exact List.Mem.head _ | apply List.Mem.tail)) (fun s h => ?_)
  exact k s (h.sub (List.sublist_cons_self _ _))
/-- iter(dict) -/
theorem D_iterCall {d : Addr} {kvs : List (Int × Value)} {F R : List Cell} {Q : Value → Shared → Prop} (h : St σ G (F ++ (d, dct prog w kvs) :: R) s) (k : ∀ it ep s', St σ G ((it, kit d 0 kvs.length ep) :: (F ++ (d, dcE prog w kvs ep) :: R)) s' → Q (.ref it) s') : W prog w A (call (.builtin "iter") [.ref d]) Q s := by
  refine call_function_entry (by decide +kernel) (by decide +kernel) kdk_entry_iter (kdk_args_iter _) ?_
  unfold Builtin.«iter»
  refine wpAny_bind (m := someArgs "iter" 1 2 _) (wpAny_of_eq (a := [Value.ref d]) (by first | rfl | kernel_rfl!) ?_)
  show W prog w A.in1 (pyIter (.ref d) >>= _) _ _
  exact wpAny_bind (D_iter h (fun it ep s' h' => wpAny_pure ⟨_, rfl, k it ep s' h'⟩))
/-- net.neighbors(n) -/
theorem call_neighbors (B : Base σ mg) (X : K.In σ.heap) (N : NF K) (g1 : mg "iter" = none) (hd : A.depth ≤ 880) {x nd Sd Si : Addr} {l : List (Str × Value)} (hl : l.lookup (Str.ofString "_succ") = some (.ref Sd)) {skv ikv : List (Int × Value)} {n : Int} {t : Tok} {Q : Value → Shared → Prop} (hv : valueAt skv n = some (.ref Si))
    (h : St σ G ((x, ins cDi nd) :: (nd, sd prog w l) :: (Sd, dct prog w skv) :: (Si, dct prog w ikv) :: R) s)
    (k : ∀ it ep s', St σ G ((it, kit Si 0 ikv.length ep) :: (x, ins cDi nd) :: (nd, sd prog w l) :: (Sd, dct prog w skv) :: (Si, dcE prog w ikv ep) :: R) s' → Q (.ref it) s') : CallF prog w A σ 855 [.ref x, .int n t] Q s := by
  obtain ⟨nm, ql, kV, doc, pm, an, cdv, ct, F⟩ := N.fNei.fn X
  refine T_callP [("self", .ref x), ("n", .int n t)] F B.lim (by omega) h (fun Lf s h => ?_)
  refine T_cons (T_try (T_cons (T_ret (T_call (T_builtin B h g1 (v := .builtin "iter") (by decide +kernel) ?_)))))
  refine T_with1 (T_args (T_sub (T_attr ?_)))
  refine t_name h ?_
  refine T_getOwn X N.di N.gSucc h (x := x) (dx := nd) (by repeat (first | exact List.Mem.head _ | apply List.Mem.tail)) (by repeat (first | exact List.Mem.head _ | apply List.Mem.tail)) hl rfl (fun s h => ?_)
  refine t_name h ?_
  refine D_item (d := Sd) h (by repeat (first | exact List.Mem.head _ | apply List.Mem.tail)) hv (fun s h => T_args0 ?_)
  refine D_iterCall (F := [_, _, _, _]) h (fun it ep s h => ?_)
  exact k it ep s (h.pick (E := [_, _, _, _, _, _]) (R := R) [0, 2, 3, 4, 5])

/-- DiGraph() -/
theorem call_init (B : Base σ mg) (X : K.In σ.heap) (N : NF K) (hd : A.depth ≤ 900) {x nd : Addr} {Q : Value → Shared → Prop} (h : St σ G ((x, ins cDi nd) :: (nd, sd prog w []) :: L) s)
    (k : ∀ Sd Pd Nd Gd s', St σ G ((x, ins cDi nd) :: (nd, sd prog w (ndl Sd Pd Nd Gd)) :: (Sd, dct prog w []) :: (Pd, dct prog w []) :: (Nd, dct prog w []) :: L) s' → Q .none s') : CallF prog w A σ 783 [.ref x] Q s := by
  obtain ⟨nm, ql, kV, doc, pm, an, cdv, ct, F⟩ := N.fInit.fn X
  refine T_callDK (fun D => [("self", .ref x), ("incoming_graph_data", .none), ("attr", .ref D)]) F B.lim (by omega) X N.tInit h (fun D Lf s h => ?_)
  refine T_cons (T_assign (T_method ?_))
  refine t_name h ?_
  refine T_getMethodDict X N.di N.fac1 h (x := x) (dx := nd) (by repeat (first | exact List.Mem.head _ | apply List.Mem.tail)) (by repeat (first | exact List.Mem.head _ | apply List.Mem.tail)) rfl rfl (fun s h => ?_)
  refine T_withT0 (D_call0 h (fun Gd s h => T_assignOne (T_assignAttr ?_)))
  refine t_name h ?_
  refine T_setAttr X h (x := x) (dx := nd) (by repeat (first | exact List.Mem.head _ | apply List.Mem.tail)) (by repeat (first | exact Put.here | apply Put.there)) (by simp) N.di.setattr N.di.over N.sGraph N.di.dict (fun s h => ?_)
  refine T_cons (T_assign (T_method ?_))
  refine t_name h ?_
  refine T_getMethodDict X N.di N.fac2 h (x := x) (dx := nd) (by repeat (first | exact List.Mem.head _ | apply List.Mem.tail)) (by repeat (first | exact List.Mem.head _ | apply List.Mem.tail)) rfl rfl (fun s h => ?_)
  refine T_withT0 (D_call0 h (fun Nd s h => T_assignOne (T_assignAttr ?_)))
  refine t_name h ?_
  refine T_setAttr X h (x := x) (dx := nd) (by repeat (first | exact List.Mem.head _ | apply List.Mem.tail)) (by repeat (first | exact Put.here | apply Put.there)) (by simp) N.di.setattr N.di.over N.sNode N.di.dict (fun s h => ?_)
  refine T_cons (T_assign (T_method ?_))
  refine t_name h ?_
  refine T_getMethodDict X N.di N.fac3 h (x := x) (dx := nd) (by repeat (first | exact List.Mem.head _ | apply List.Mem.tail)) (by repeat (first | exact List.Mem.head _ | apply List.Mem.tail)) rfl rfl (fun s h => ?_)
  refine T_withT0 (D_call0 h (fun Sd s h => T_assignOne (T_assignAttr ?_)))
  refine t_name h ?_
  refine T_setAttr X h (x := x) (dx := nd) (by repeat (first | exact List.Mem.head _ | apply List.Mem.tail)) (by repeat (first | exact Put.here | apply Put.there)) (by simp) N.di.setattr N.di.over N.sAdj N.di.dict (fun s h => ?_)
  refine T_cons (T_assign (T_method ?_))
  refine t_name h ?_
  refine T_getMethodDict X N.di N.fac3 h (x := x) (dx := nd) (by repeat (first | exact List.Mem.head _ | apply List.Mem.tail)) (by repeat (first | exact List.Mem.head _ | apply List.Mem.tail)) rfl rfl (fun s h => ?_)
  refine T_withT0 (D_call0 h (fun Pd s h => T_assignOne (T_assignAttr ?_)))
  refine t_name h ?_
  refine T_setAttr X h (x := x) (dx := nd) (by repeat (first | exact List.Mem.head _ | apply List.Mem.tail)) (by repeat (first | exact Put.here | apply Put.there)) (by simp) N.di.setattr N.di.over N.sPred N.di.dict (fun s h => ?_)
  refine T_cons (T_assign (T_attr ?_))
  refine t_name h ?_
  refine T_getOwn X N.di N.gAdj h (x := x) (dx := nd) (by repeat (first | exact List.Mem.head _ | apply List.Mem.tail)) (by repeat (first | exact List.Mem.head _ | apply List.Mem.tail)) rfl rfl (fun s h => T_assignOne (T_assignAttr ?_))
  refine t_name h ?_
  refine T_setAttr X h (x := x) (dx := nd) (by repeat (first | exact List.Mem.head _ | apply List.Mem.tail)) (by repeat (first | exact Put.here | apply Put.there)) (by simp) N.di.setattr N.di.over N.sSucc N.di.dict (fun s h => ?_)
  refine T_cons (T_if (T_isCompare ?_))
  refine t_name h (T_none (T_isNotNone (T_truthyBool ?_)))
  rw [if_neg (by decide)]
  refine T_nil ?_
  refine T_cons (T_expr (T_method (T_attr ?_)))
  refine t_name h ?_
  refine T_getOwn X N.di N.gGraph h (x := x) (dx := nd) (by repeat (first | exact List.Mem.head _ | apply List.Mem.tail)) (by repeat (first | exact List.Mem.head _ | apply List.Mem.tail)) rfl rfl (fun s h => ?_)
  refine D_getUpdate (d := Gd) h (by repeat (first | exact List.Mem.head _ | apply List.Mem.tail)) ?_
  refine T_with1 (T_args ?_)
  refine t_name h (T_args0 ?_)
  refine D_update0 (d := Gd) (e := D) h (by repeat (first | exact List.Mem.head _ | apply List.Mem.tail)) (by repeat (first | exact List.Mem.head _ | apply List.Mem.tail)) ?_ (by decide) (fun s h => T_nil ?_)
  · intro e
    have := h.nd
    simp [e] at this
  · exact k Sd Pd Nd Gd s (h.pick (E := [_, _, _, _, _, _, _, _]) (R := L) [6, 7, 1, 0, 2])
end
end Mine

namespace Mine
open PySem PySem.W PySem.Calls PyProof.Rows

/-- what the program's heap holds of the views and of the cached property -/
structure NV (K : Frag) : Prop where
  view : ViewFacts K cIn
  sSucc : takerIn K cIn "_succ" = some none
  sPred : takerIn K cIn "_pred" = some none
  sNodes : takerIn K cIn "_nodes" = some none
  sWeight : takerIn K cIn "_weight" = some none
  init : findIn K (.ref cIn) "__init__" = some (some (.ref 234))
  fInit : FnK K 234 (meth 14 0) (.ref 227)
  tInit : TupK K 227 #[.none, .none]
  call : findIn K (.ref cIn) "__call__" = some (some (.ref 252))
  fCall : FnK K 252 (meth 14 2) (.ref 245)
  tCall : TupK K 245 #[.none, .none]
  iter : findIn K (.ref cIn) "__iter__" = some (some (.ref 327))
  fIter : FnK K 327 (meth 16 1) .none
  modDi : mroIn K cDi (.type "module") = some false
  inDeg : clsFind K cDi "in_degree" = some (some (.ref 901), some (.ref 535), false)
  inDegF : findIn K (.ref cDi) "in_degree" = some (some (.ref 901))
  inDegT : typeIn K (.ref 901) = some (.ref 545)
  fGet : FnK K 535 (meth 23 2) (.ref 528)
  tGet : TupK K 528 #[.none]
  fDeg : FnK K 899 (meth 27 15) .none
  cpGA : findIn K (.ref 545) "__getattribute__" = some (some (.builtin "object.__getattribute__"))
  cpGT : findIn K (.ref 545) "__getattr__" = some none
  cpFunc : findIn K (.ref 545) "func" = some none
  aName : ∃ t, AttrK K 901 545 "attrname" (.str "in_degree" t)
  aFunc : AttrK K 901 545 "func" (.ref 899)
  dictA : clsFind K cDi "__dict__" = some (some (.ref 761), some (.builtin "getset_descriptor.__get__"), true)
  gs : ∃ nm tn v3, recIn K 761 "getset_descriptor" = some [.str nm tn, .ref 760, .builtin "function.__dict__", v3]
  mro : mroIn K cDi (.ref 760) = some true
  st : mroIn K cDi (.type "staticmethod") = some false
  cm : mroIn K cDi (.type "classmethod") = some false
  keep : keepIn K (.ref cIn) = true

section
variable {prog : Program} {w : World} {A : Around} {σ s : Shared} {G : Array GenState → Prop} {L R : List Cell} {K : Frag} {mg : Str → Option Value} {env : Env}

theorem T_str {x : Str} {kd : Nat} {pos : Pos} {Q : Value → Shared → Prop} (h : St σ G L s) (k : ∀ t s', St σ G L s' → Q (.str x t) s') : W prog w A (eval (.Constant (.str x) kd pos) env) Q s :=
  wpAny_Constant_str (k _ _ (h.toks _))
theorem T_eqNone {Q : Value → Shared → Prop} (k : Q (.bool true) s) : W prog w A (compareOp .Eq .none .none) Q s := PySem.EqNone.eq_none_none k
theorem T_isSelf {x : Addr} {Q : Value → Shared → Prop} (k : Q (.bool true) s) : W prog w A (compareOp .Is (.ref x) (.ref x)) Q s := by
  show W prog w A (do return .bool (← isSame (.ref x) (.ref x))) Q s
  exact wpAny_bind (wpAny_isSame_ref_self (wpAny_pure k))
theorem call_vinit (B : Base σ mg) (X : K.In σ.heap) (N : NF K) (V : NV K) (g1 : mg "hasattr" = none) (hd : A.depth ≤ 900) {vx vd x nd Sd Pd Nd Gd : Addr} {Q : Value → Shared → Prop} (h : St σ G ((vx, ins cIn vd) :: (vd, sd prog w []) :: (x, ins cDi nd) :: (nd, sd prog w (ndl Sd Pd Nd Gd)) :: R) s)
    (k : ∀ s', St σ G ((vx, ins cIn vd) :: (vd, sd prog w [("_weight", .none), ("_nodes", .ref Sd), ("_pred", .ref Pd), ("_succ", .ref Sd)]) :: (x, ins cDi nd) :: (nd, sd prog w (ndl Sd Pd Nd Gd)) :: R) s' → Q .none s') : CallF prog w A σ 234 [.ref vx, .ref x] Q s := by
  obtain ⟨nm, ql, kV, doc, pm, an, cdv, ct, F⟩ := V.fInit.fn X
  refine T_callD [("self", .ref vx), ("G", .ref x), ("nbunch", .none), ("weight", .none)] F B.lim (by omega) X V.tInit h (fun Lf s h => ?_)
  refine T_cons (T_assign (T_ifExp (T_isAny (T_call (T_builtin B h g1 (v := .builtin "hasattr") (by decide +kernel) ?_)))))
  refine T_with1 (T_args ?_)
  refine t_name h (T_args (T_str h (fun t s h => T_args0 ?_)))
  refine N_hasattr X N.di N.gSucc h (x := x) (dx := nd) (by repeat (first | exact List.Mem.head _ | apply List.Mem.tail)) (by repeat (first | exact List.Mem.head _ | apply List.Mem.tail)) rfl rfl V.modDi (T_truthyBool ?_)
  rw [if_pos rfl]
  refine T_attr ?_
  refine t_name h ?_
  refine T_getOwn X N.di N.gSucc h (x := x) (dx := nd) (by repeat (first | exact List.Mem.head _ | apply List.Mem.tail)) (by repeat (first | exact List.Mem.head _ | apply List.Mem.tail)) rfl rfl (fun s h => T_assignOne (T_assignAttr ?_))
  refine t_name h ?_
  refine T_setAttr X h (x := vx) (dx := vd) (by repeat (first | exact List.Mem.head _ | apply List.Mem.tail)) (by repeat (first | exact Put.here | apply Put.there)) (by simp) V.view.cls.setattr V.view.cls.over V.sSucc V.view.cls.dict (fun s h => ?_)
  refine T_cons (T_assign (T_ifExp (T_isAny (T_call (T_builtin B h g1 (v := .builtin "hasattr") (by decide +kernel) ?_)))))
  refine T_with1 (T_args ?_)
  refine t_name h (T_args (T_str h (fun t s h => T_args0 ?_)))
  refine N_hasattr X N.di N.gPred h (x := x) (dx := nd) (by repeat (first | exact List.Mem.head _ | apply List.Mem.tail)) (by repeat (first | exact List.Mem.head _ | apply List.Mem.tail)) rfl rfl V.modDi (T_truthyBool ?_)
  rw [if_pos rfl]
  refine T_attr ?_
  refine t_name h ?_
  refine T_getOwn X N.di N.gPred h (x := x) (dx := nd) (by repeat (first | exact List.Mem.head _ | apply List.Mem.tail)) (by repeat (first | exact List.Mem.head _ | apply List.Mem.tail)) rfl rfl (fun s h => T_assignOne (T_assignAttr ?_))
  refine t_name h ?_
  refine T_setAttr X h (x := vx) (dx := vd) (by repeat (first | exact List.Mem.head _ | apply List.Mem.tail)) (by repeat (first | exact Put.here | apply Put.there)) (by simp) V.view.cls.setattr V.view.cls.over V.sPred V.view.cls.dict (fun s h => ?_)
  refine T_cons (T_assign (T_ifExp (T_isCompare ?_)))
  refine t_name h (T_none (T_isNone (T_truthyBool ?_)))
  rw [if_pos (by decide)]
  refine T_attr ?_
  refine t_name h ?_
  refine T_getOwn X V.view.cls V.view.succ h (x := vx) (dx := vd) (by repeat (first | exact List.Mem.head _ | apply List.Mem.tail)) (by repeat (first | exact List.Mem.head _ | apply List.Mem.tail)) rfl rfl (fun s h => T_assignOne (T_assignAttr ?_))
  refine t_name h ?_
  refine T_setAttr X h (x := vx) (dx := vd) (by repeat (first | exact List.Mem.head _ | apply List.Mem.tail)) (by repeat (first | exact Put.here | apply Put.there)) (by simp) V.view.cls.setattr V.view.cls.over V.sNodes V.view.cls.dict (fun s h => ?_)
  refine T_cons (T_assign ?_)
  refine t_name h (T_assignOne (T_assignAttr ?_))
  refine t_name h ?_
  refine T_setAttr X h (x := vx) (dx := vd) (by repeat (first | exact List.Mem.head _ | apply List.Mem.tail)) (by repeat (first | exact Put.here | apply Put.there)) (by simp) V.view.cls.setattr V.view.cls.over V.sWeight V.view.cls.dict (fun s h => T_nil ?_)
  exact k s (h.sub (List.sublist_cons_self _ _))

theorem T_withK {pos : Pos} {f : Value} {first : List Value} {e : Expr} {rest : List Expr} {Q : Value → Shared → Prop} (X : K.In σ.heap) (hk : keepIn K f = true)
    (k : W prog w A (spliced (backTo pos (starEach (e :: rest) env))) (fun vs s₁ => K.In s₁.heap ∧ W prog w A (call f (first ++ vs)) Q s₁) s)
    (he : starEach (e :: rest) env = (false, eval e env) :: starEach rest env := by rfl) (hp : (backTo pos (starEach rest env)).any (·.1) = false := by rfl) :
    W prog w A (callWith pos f first (backTo pos (starEach (e :: rest) env)) []) Q s := callWith_K X hk k he hp
theorem call_indeg (B : Base σ mg) (X : K.In σ.heap) (N : NF K) (V : NV K) (g1 : mg "hasattr" = none) (g2 : mg "InDegreeView" = some (.ref cIn)) (hd : A.depth ≤ 880) {x nd Sd Pd Nd Gd : Addr} {Q : Value → Shared → Prop} (h : St σ G ((x, ins cDi nd) :: (nd, sd prog w (ndl Sd Pd Nd Gd)) :: R) s)
    (k : ∀ vx vd s', St σ G ((vx, ins cIn vd) :: (vd, sd prog w [("_weight", .none), ("_nodes", .ref Sd), ("_pred", .ref Pd), ("_succ", .ref Sd)]) :: (x, ins cDi nd) :: (nd, sd prog w (ndl Sd Pd Nd Gd)) :: R) s' → Q (.ref vx) s') : CallF prog w A σ 899 [.ref x] Q s := by
  obtain ⟨nm, ql, kV, doc, pm, an, cdv, ct, F⟩ := V.fDeg.fn X
  refine T_callP [("self", .ref x)] F B.lim (by omega) h (fun Lf s h => ?_)
  refine T_cons (T_ret (T_call (T_global B h g2 ?_)))
  refine T_withK X V.keep (T_args ?_)
  refine t_name h (T_args0 ⟨X.keeps h.keep, ?_⟩)
  have h := h.sub (List.sublist_cons_self _ _)
  refine T_make X V.view.cls V.init V.fInit.isFn h (by show A.depth + 1 ≤ 890; omega) _ (fun A' vx vd s hd' hA' h => ?_)
  refine call_vinit B X N V g1 hd' h (fun s h => ⟨rfl, ?_⟩)
  exact k vx vd s h
/-- view() -/
theorem call_vcall (B : Base σ mg) (X : K.In σ.heap) (V : NV K) (hd : A.depth ≤ 880) {vx vd Sd Pd : Addr} {Q : Value → Shared → Prop} (h : St σ G ((vx, ins cIn vd) :: (vd, sd prog w [("_weight", .none), ("_nodes", .ref Sd), ("_pred", .ref Pd), ("_succ", .ref Sd)]) :: R) s)
    (k : ∀ s', St σ G ((vx, ins cIn vd) :: (vd, sd prog w [("_weight", .none), ("_nodes", .ref Sd), ("_pred", .ref Pd), ("_succ", .ref Sd)]) :: R) s' → Q (.ref vx) s') : CallF prog w A σ 252 [.ref vx] Q s := by
  obtain ⟨nm, ql, kV, doc, pm, an, cdv, ct, F⟩ := V.fCall.fn X
  refine T_callD [("self", .ref vx), ("nbunch", .none), ("weight", .none)] F B.lim (by omega) X V.tCall h (fun Lf s h => ?_)
  refine T_cons (T_if (T_isCompare ?_))
  refine t_name h (T_none (T_isNone (T_truthyBool ?_)))
  rw [if_pos (by decide)]
  refine T_cons (T_if (T_isCompare ?_))
  refine t_name h (T_attr ?_)
  refine t_name h ?_
  refine T_getOwn X V.view.cls V.view.weight h (x := vx) (dx := vd) (by repeat (first | exact List.Mem.head _ | apply List.Mem.tail)) (by repeat (first | exact List.Mem.head _ | apply List.Mem.tail)) rfl rfl (fun s h => T_eqNone (T_truthyBool ?_))
  rw [if_pos rfl]
  refine T_cons (T_ret ?_)
  refine t_name h ?_
  exact k s (h.sub (List.sublist_cons_self _ _))
theorem ite_no {b : Bool} {P Q : Prop} (hb : b = false) (h : Q) : if b = true then P else Q := by subst hb; exact h
/-- the cached property, the first time -/
theorem call_cget (B : Base σ mg) (X : K.In σ.heap) (N : NF K) (V : NV K) (hAl : Alone σ) (g1 : mg "hasattr" = none) (g2 : mg "InDegreeView" = some (.ref cIn)) (g3 : mg "_NOT_FOUND" = some (.ref 506)) (hd : A.depth ≤ 870) {x nd Sd Pd Nd Gd : Addr} {Q : Value → Shared → Prop} (h : St σ G ((x, ins cDi nd) :: (nd, sd prog w (ndl Sd Pd Nd Gd)) :: R) s)
    (k : ∀ vx vd s', St σ G ((vx, ins cIn vd) :: (vd, sd prog w [("_weight", .none), ("_nodes", .ref Sd), ("_pred", .ref Pd), ("_succ", .ref Sd)]) :: (x, ins cDi nd) :: (nd, sd prog w (("in_degree", .ref vx) :: ndl Sd Pd Nd Gd)) :: R) s' → Q (.ref vx) s') : CallC prog w A σ 535 [.ref 901, .ref x, .ref cDi] Q s := by
  obtain ⟨nm, ql, kV, doc, pm, an, cdv, ct, F⟩ := V.fGet.fn X
  obtain ⟨ta, hat⟩ := V.aName
  refine C_callD [("self", .ref 901), ("instance", .ref x), ("owner", .ref cDi)] F B.lim (by omega) X V.tGet h (fun Lf s h => ?_)
  refine c_cons (c_of (T_if (T_isCompare ?_)))
  refine t_name h (T_none (T_isNone (T_truthyBool ?_)))
  refine ite_no rfl ?_
  refine T_nil ?_
  refine c_cons (c_of (T_if (T_isCompare (T_attr ?_))))
  refine t_name h ?_
  refine K_getAttr X V.cpGA hat h (fun s h => T_none (T_isNone (T_truthyBool ?_)))
  refine ite_no rfl ?_
  refine T_nil ?_
  refine c_cons (c_try (c_cons (c_assignName (c_attr ?_))))
  refine t_name h ?_
  obtain ⟨nn, tn, v3, hgs⟩ := V.gs
  refine c_getBind X N.di.getattribute N.di.getattr (fun od _ => clsFind_data V.dictA) h (x := x) (dx := nd) (by repeat (first | exact List.Mem.head _ | apply List.Mem.tail)) (by repeat (first | exact List.Mem.head _ | apply List.Mem.tail)) (fun A' s _ _ h => ?_)
  refine codeC_getset X hAl hgs V.mro V.st V.cm N.di.dict h (by repeat (first | exact List.Mem.head _ | apply List.Mem.tail)) (by repeat (first | exact List.Mem.head _ | apply List.Mem.tail)) (fun s h => ⟨rfl, ?_⟩)
  refine t_store h (fun s h => c_execsNil ?_)
  refine c_of ?_
  refine T_cons (T_assignName (T_method ?_))
  refine t_name h ?_
  refine S_getGet (dx := nd) h (by repeat (first | exact List.Mem.head _ | apply List.Mem.tail)) ?_
  refine T_with1 (T_args (T_attr ?_))
  refine t_name h ?_
  refine K_getAttr X V.cpGA hat h (fun s h => T_args (T_global B h g3 (T_args0 ?_)))
  refine S_get2 (dx := nd) h (by repeat (first | exact List.Mem.head _ | apply List.Mem.tail)) rfl (fun s h => ?_)
  refine t_store h (fun s h => ?_)
  refine T_cons (T_if (T_isCompare ?_))
  refine t_name h (T_global B h g3 (T_isSelf (T_truthyBool ?_)))
  rw [if_pos rfl]
  refine T_cons (T_assignName (T_method ?_))
  refine t_name h ?_
  refine K_getMethod X V.cpGA V.cpGT V.cpFunc V.aFunc h (fun s h => ?_)
  obtain ⟨nm', ql', kV', doc', pm', an', cdv', ct', F'⟩ := V.fDeg.fn X
  refine T_withF F' (T_args ?_)
  refine t_name h (T_args0 ?_)
  have h := h.pick (E := [_, _, _]) (R := R) [1, 2, 0]
  refine call_indeg B X N V g1 g2 (by show A.depth + 1 ≤ 880; omega) h (fun vx vd s h => ?_)
  refine t_store h (fun s h => ?_)
  refine T_cons (T_try (T_cons (T_assign ?_)))
  refine t_name h (T_assignOne (T_assignSub ?_))
  refine t_name h (T_attr ?_)
  refine t_name h ?_
  refine K_getAttr X V.cpGA hat h (fun s h => ?_)
  refine S_setItem (dx := nd) h (by repeat (first | exact Put.here | apply Put.there)) (by simp [ndl]) (fun s h => T_nil (T_nil ?_))
  refine T_cons (T_ret ?_)
  refine t_name h ?_
  exact k vx vd s (h.pick (E := [_, _, _, _, _]) (R := R) [0, 1, 2, 3])
end
end Mine

namespace Mine
open PySem PySem.W PySem.Calls PyProof.Rows

theorem valueAt_none {kvs : List (Int × Value)} {k : Int} (h : k ∉ kvs.map (·.1)) : valueAt kvs k = none := by
  unfold valueAt
  rw [Option.map_eq_none_iff, List.find?_eq_none]
  intro x hx
  simp only [decide_eq_true_eq]
  exact fun e => h (e ▸ List.mem_map.mpr ⟨x, hx, rfl⟩)
theorem stored_new {kvs : List (Int × Value)} {k : Int} {v : Value} (h : k ∉ kvs.map (·.1)) : stored kvs k v = kvs ++ [(k, v)] := by
  unfold stored
  rw [if_neg]
  intro hany
  obtain ⟨x, hx, e⟩ := List.any_eq_true.mp hany
  simp only [decide_eq_true_eq] at e
  exact h (e ▸ List.mem_map.mpr ⟨x, hx, rfl⟩)
theorem refs_snoc {ns : List Int} {as : List Addr} (h : as.length = ns.length) (n : Int) (a : Addr) : refs (ns ++ [n]) (as ++ [a]) = refs ns as ++ [(n, .ref a)] := by
  unfold refs
  rw [List.zipWith_append h.symm]; rfl
theorem valueAt_last {kvs : List (Int × Value)} {k : Int} {v : Value} (h : k ∉ kvs.map (·.1)) : valueAt (kvs ++ [(k, v)]) k = some v := by
  have := valueAt_none h
  unfold valueAt at this ⊢
  rw [List.find?_append]
  rw [Option.map_eq_none_iff] at this
  rw [this]
  simp
theorem ite_yes {b : Bool} {P Q : Prop} (hb : b = true) (h : P) : if b = true then P else Q := by subst hb; exact h
/-- empty inner dicts -/
def nils (prog : Program) (w : World) (as : List Addr) : List Cell := as.map fun a => (a, dct prog w [])
theorem nils_snoc (prog : Program) (w : World) (as : List Addr) (a : Addr) : nils prog w (as ++ [a]) = nils prog w as ++ [(a, dct prog w [])] := by simp [nils]

section
variable {prog : Program} {w : World} {A : Around} {σ s : Shared} {G : Array GenState → Prop} {L R : List Cell} {K : Frag} {mg : Str → Option Value} {env : Env}

theorem call_addNodes (B : Base σ mg) (X : K.In σ.heap) (N : NF K) (hA : A.handled = none) (hd : A.depth ≤ 880) {x nd Sd Pd Nd Gd nl : Addr} {ns : List Int} {Q : Value → Shared → Prop} (hn : ns.Nodup) (hz : ns.length ≤ 60)
    (h : St σ G ((nl, ils ns) :: (x, ins cDi nd) :: (nd, sd prog w (ndl Sd Pd Nd Gd)) :: (Sd, dct prog w []) :: (Pd, dct prog w []) :: (Nd, dct prog w []) :: R) s)
    (k : ∀ sa pa na s', sa.length = ns.length → pa.length = ns.length → na.length = ns.length → St σ G ((nl, ils ns) :: (x, ins cDi nd) :: (nd, sd prog w (ndl Sd Pd Nd Gd)) :: (Sd, dct prog w (refs ns sa)) :: (Pd, dct prog w (refs ns pa)) :: (Nd, dct prog w (refs ns na)) :: (nils prog w sa ++ (nils prog w pa ++ R))) s' → Q .none s') : CallF prog w A σ 827 [.ref x, .ref nl] Q s := by
  obtain ⟨nm, ql, kV, doc, pm, an, cdv, ct, F⟩ := N.fAddN.fn X
  refine T_callPK (fun D => [("self", .ref x), ("nodes_for_adding", .ref nl), ("attr", .ref D)]) F B.lim (by omega) h (fun D Lf s h => ?_)
  refine T_cons (T_for ?_)
  refine t_name h ?_
  refine i_iter h (fun it s h => ?_)
  have h := h.pick (E := [_, _, _, _, _, _, _, _, _]) (R := R) [0, 3, 1, 2, 4, 5, 6, 7, 8]
  refine T_loop (Src.ints (σ := σ) (G := G) (A := A.deeper _) (by exact hA) it nl ns _ _) (fun i L' => ∃ sa pa na, sa.length = i ∧ pa.length = i ∧ na.length = i ∧ L' = (Lf, fr [("self", .ref x), ("nodes_for_adding", .ref nl), ("attr", .ref D)]) :: (D, dct prog w []) :: (x, ins cDi nd) :: (nd, sd prog w (ndl Sd Pd Nd Gd)) ::
      (Sd, dct prog w (refs (ns.take i) sa)) :: (Pd, dct prog w (refs (ns.take i) pa)) :: (Nd, dct prog w (refs (ns.take i) na)) :: (nils prog w sa ++ (nils prog w pa ++ R))) h ⟨[], [], [], rfl, rfl, rfl, rfl⟩ ?_ ?_
  · rintro i v W L' s hi ⟨n, t, hni, rfl, rfl⟩ ⟨sa, pa, na, l1, l2, l3, rfl⟩ h
    have hti : (ns.take i).length = i := by rw [List.length_take]; omega
    have hnew : n ∉ ns.take i := by
      intro hm
      obtain ⟨j, hj, e⟩ := List.getElem_of_mem hm
      rw [List.length_take] at hj
      rw [List.getElem_take] at e
      obtain ⟨hi', e'⟩ := List.getElem?_eq_some_iff.mp hni
      have := (List.getElem_inj hn).mp (e.trans e'.symm)
      omega
    have ht : ns.take (i + 1) = ns.take i ++ [n] := by rw [List.take_add_one, hni]; rfl
    have kS : n ∉ (refs (ns.take i) sa).map (·.1) := by rw [refs_fst (l1.trans hti.symm)]; exact hnew
    have kP : n ∉ (refs (ns.take i) pa).map (·.1) := by rw [refs_fst (l2.trans hti.symm)]; exact hnew
    have kN : n ∉ (refs (ns.take i) na).map (·.1) := by rw [refs_fst (l3.trans hti.symm)]; exact hnew
    have len : ∀ as : List Addr, as.length = i → (refs (ns.take i) as).length ≤ 100 := by
      intro as ha
      have := congrArg List.length (refs_fst (ns := ns.take i) (as := as) (ha.trans hti.symm))
      rw [List.length_map] at this
      omega
    refine T_assignN ?_
    refine t_store h (fun s h => ?_)
    refine T_cons (T_try (T_cons (T_assignName (T_compare ?_))))
    refine t_name h (T_attr ?_)
    refine t_name h ?_
    refine T_getOwn X N.di N.gNode h (x := x) (dx := nd) (by repeat (first | exact List.Mem.head _ | apply List.Mem.tail)) (by repeat (first | exact List.Mem.head _ | apply List.Mem.tail)) rfl rfl (fun s h => ?_)
    refine D_notIn (d := Nd) h (by repeat (first | exact List.Mem.head _ | apply List.Mem.tail)) (fun s h => ?_)
    rw [valueAt_none kN]
    refine t_store h (fun s h => ?_)
    refine T_cons (T_assignName ?_)
    refine t_name h ?_
    refine t_store h (fun s h => T_nil ?_)
    refine T_cons (T_if (T_isName ?_))
    refine t_name h (T_truthyBool ?_)
    refine ite_yes rfl ?_
    refine T_cons (T_if (T_isCompare ?_))
    refine t_name h (T_none (T_isNone (T_truthyBool ?_)))
    refine ite_no rfl (T_nil ?_)
    refine T_cons (T_assign (T_method ?_))
    refine t_name h ?_
    refine T_getMethodDict X N.di N.fac4 h (x := x) (dx := nd) (by repeat (first | exact List.Mem.head _ | apply List.Mem.tail)) (by repeat (first | exact List.Mem.head _ | apply List.Mem.tail)) rfl rfl (fun s h => ?_)
    refine T_withT0 (D_call0 h (fun a s h => T_assignOne (T_assignSub (T_attr ?_))))
    refine t_name h ?_
    refine T_getOwn X N.di N.gSucc h (x := x) (dx := nd) (by repeat (first | exact List.Mem.head _ | apply List.Mem.tail)) (by repeat (first | exact List.Mem.head _ | apply List.Mem.tail)) rfl rfl (fun s h => ?_)
    refine t_name h ?_
    refine D_setItem (d := Sd) (kvs := refs (ns.take i) sa) h (by repeat (first | exact Put.here | apply Put.there)) (by have := len _ l1; omega) (fun s h => ?_)
    rw [stored_new kS] at h
    refine T_cons (T_assign (T_method ?_))
    refine t_name h ?_
    refine T_getMethodDict X N.di N.fac4 h (x := x) (dx := nd) (by repeat (first | exact List.Mem.head _ | apply List.Mem.tail)) (by repeat (first | exact List.Mem.head _ | apply List.Mem.tail)) rfl rfl (fun s h => ?_)
    refine T_withT0 (D_call0 h (fun b s h => T_assignOne (T_assignSub (T_attr ?_))))
    refine t_name h ?_
    refine T_getOwn X N.di N.gPred h (x := x) (dx := nd) (by repeat (first | exact List.Mem.head _ | apply List.Mem.tail)) (by repeat (first | exact List.Mem.head _ | apply List.Mem.tail)) rfl rfl (fun s h => ?_)
    refine t_name h ?_
    refine D_setItem (d := Pd) (kvs := refs (ns.take i) pa) h (by repeat (first | exact Put.here | apply Put.there)) (by have := len _ l2; omega) (fun s h => ?_)
    rw [stored_new kP] at h
    refine T_cons (T_assign (T_method ?_))
    refine t_name h ?_
    refine T_getMethodDict X N.di N.fac5 h (x := x) (dx := nd) (by repeat (first | exact List.Mem.head _ | apply List.Mem.tail)) (by repeat (first | exact List.Mem.head _ | apply List.Mem.tail)) rfl rfl (fun s h => ?_)
    refine T_withT0 (D_call0 h (fun c s h => T_assignOne (T_assignSub (T_attr ?_))))
    refine t_name h ?_
    refine T_getOwn X N.di N.gNode h (x := x) (dx := nd) (by repeat (first | exact List.Mem.head _ | apply List.Mem.tail)) (by repeat (first | exact List.Mem.head _ | apply List.Mem.tail)) rfl rfl (fun s h => ?_)
    refine t_name h ?_
    refine D_setItem (d := Nd) (kvs := refs (ns.take i) na) h (by repeat (first | exact Put.here | apply Put.there)) (by have := len _ l3; omega) (fun s h => ?_)
    rw [stored_new kN] at h
    refine T_nil ?_
    refine T_cons (T_expr (T_method (T_sub (T_attr ?_))))
    refine t_name h ?_
    refine T_getOwn X N.di N.gNode h (x := x) (dx := nd) (by repeat (first | exact List.Mem.head _ | apply List.Mem.tail)) (by repeat (first | exact List.Mem.head _ | apply List.Mem.tail)) rfl rfl (fun s h => ?_)
    refine t_name h ?_
    refine D_item (d := Nd) h (by repeat (first | exact List.Mem.head _ | apply List.Mem.tail)) (valueAt_last kN) (fun s h => ?_)
    refine D_getUpdate (d := c) h (by repeat (first | exact List.Mem.head _ | apply List.Mem.tail)) ?_
    refine T_with1 (T_args ?_)
    refine t_name h (T_args0 ?_)
    refine D_update0 (d := c) (e := D) h (by repeat (first | exact List.Mem.head _ | apply List.Mem.tail)) (by repeat (first | exact List.Mem.head _ | apply List.Mem.tail)) ?_ (by decide) (fun s h => T_nil ?_)
    · intro e
      have := h.nd
      simp [e] at this
    · rw [← refs_snoc (l1.trans hti.symm), ← refs_snoc (l2.trans hti.symm), ← refs_snoc (l3.trans hti.symm), ← ht] at h
      have h := (h.pick (E := [_, _, _, _, _, _, _, _, _, _, _, _]) (R := nils prog w sa ++ (nils prog w pa ++ R)) [1, 2, 3, 4, 5, 6, 7, 8, 9, 10, 11]).perm (perm_mid2 (a, dct prog w []) (b, dct prog w []) [_, _, _, _, _, _, _, _, _] (nils prog w sa) (nils prog w pa) R)
      rw [← nils_snoc, ← nils_snoc] at h
      have h := h.frame [_, _] [("self", .ref x), ("nodes_for_adding", .ref nl), ("attr", .ref D)]
      exact ⟨_, ⟨sa ++ [a], pa ++ [b], na ++ [c], by simp [l1], by simp [l2], by simp [l3], rfl⟩, h⟩
  · rintro L' s ⟨sa, pa, na, l1, l2, l3, rfl⟩ h
    rw [List.take_length] at h
    exact T_nil (k sa pa na s l1 l2 l3 (h.pick (E := [_, _, _, _, _, _, _, _]) (R := nils prog w sa ++ (nils prog w pa ++ R)) [0, 3, 4, 5, 6, 7]))
end
end Mine

namespace Mine
open PySem PySem.W PySem.Calls PyProof.Rows

theorem put_segD {prog : Program} {w : World} : ∀ {as : List Addr} {rs : List (List (Int × Value))} {k : Nat} {a : Addr} {r : List (Int × Value)} (r' : List (Int × Value)), as[k]? = some a → rs[k]? = some r → Put a (dct prog w r) (dct prog w r') (segD prog w as rs) (segD prog w as (rs.set k r'))
  | [], _, _, _, _, _, ha, _ => by simp at ha
  | _ :: _, [], _, _, _, _, _, hr => by simp at hr
  | a :: as, r :: rs, 0, _, _, r', ha, hr => by
    simp only [List.getElem?_cons_zero, Option.some.injEq] at ha hr
    subst ha; subst hr; exact .here
  | a :: as, r :: rs, k + 1, _, _, r', ha, hr => .there (put_segD (as := as) (rs := rs) r' (by simpa using ha) (by simpa using hr))
theorem nils_segD {prog : Program} {w : World} (as : List Addr) : nils prog w as = segD prog w as (List.replicate as.length []) := by
  induction as with
  | nil => rfl
  | cons a r ih => simp only [nils, segD, List.map_cons, List.length_cons, List.replicate_succ, List.zipWith_cons_cons] at ih ⊢; rw [ih]

/-- a pair of ints -/
def tp2 (a b : Int) : Pr := fun o => ∃ t u, tup [.int a t, .int b u] o
def segT (ts : List Addr) (es : List (Int × Int)) : List Cell := List.zipWith (fun T e => (T, tp2 e.1 e.2)) ts es
theorem mem_segT {ts : List Addr} {es : List (Int × Int)} {k : Nat} {T : Addr} {e : Int × Int} (ha : ts[k]? = some T) (he : es[k]? = some e) : (T, tp2 e.1 e.2) ∈ segT ts es := by
  refine List.mem_of_getElem? (i := k) ?_
  simp [segT, List.getElem?_zipWith, ha, he]
def succK (es : List (Int × Int)) (n : Int) : List Int := (es.filter fun e => e.1 == n).map (·.2)
def predK (es : List (Int × Int)) (n : Int) : List Int := (es.filter fun e => e.2 == n).map (·.1)

section
variable {prog : Program} {w : World} {A : Around} {σ s : Shared} {G : Array GenState → Prop} {L R : List Cell} {K : Frag} {mg : Str → Option Value} {env : Env}

theorem St.tp2 {T : Addr} {a b : Int} (h : St σ G L s) (hT : (T, tp2 a b) ∈ L) : ∃ t u n, s.heap.get? T = some { cls := .type "tuple", dict := none, data := .seq #[.int a t, .int b u] n, slots := #[] } := by
  obtain ⟨o, ho, t, u, n, rfl⟩ := h.get hT
  exact ⟨t, u, n, ho⟩
theorem T_len2 {T : Addr} {a b : Int} {Q : Value → Shared → Prop} (h : St σ G L s) (hT : (T, tp2 a b) ∈ L) (k : ∀ t s', St σ G L s' → Q (.int 2 t) s') : W prog w A (call (.builtin "len") [.ref T]) Q s := by
  obtain ⟨t, u, n, ho⟩ := h.tp2 hT
  exact len_tuple (items := #[.int a t, .int b u]) ⟨_, ho, rfl, n, rfl⟩ (by show ((2 : Nat) : Int) < 2 ^ 63; decide) (k _ _ (h.toks _))
theorem T_assign2 {tgt : Expr} {elts : List Expr} {x1 : Nat} {pos : Pos} {T : Addr} {a b : Int} {Q : Unit → Shared → Prop} (hA : A.handled = none) (h : St σ G L s) (hT : (T, tp2 a b) ∈ L) (et : tgt = .Tuple elts x1 pos)
    (k : ∀ t u s', St σ G L s' → W prog w A (assignInOrder ((assignEach elts env).map (·.2)) [.int a t, .int b u]) Q s')
    (hn : (assignEach elts env).length = 2 := by rfl) (hstar : (assignEach elts env).findIdx? (·.1) = none := by rfl) : W prog w A (assign tgt env (.ref T)) Q s := by
  subst et
  obtain ⟨t, u, n, ho⟩ := h.tp2 hT
  exact wpAny_assign_Tuple hA (items := #[.int a t, .int b u]) ⟨_, ho, rfl, n, rfl⟩ (by simpa using hn) hstar (fun h' hx => k t u _ (h.keeps (t := s.toks) (fun b o e => hx b o (Nat.ne_of_lt (Heap.lt_size e)) e)))

theorem call_addEdges (B : Base σ mg) (X : K.In σ.heap) (N : NF K) (hA : A.handled = none) (hd : A.depth ≤ 880) (g1 : mg "len" = none) {x nd Sd Pd Nd Gd el : Addr} {ns : List Int} {es : List (Int × Int)} {ts sa pa : List Addr} {Q : Value → Shared → Prop} (hn : ns.Nodup) (hes : es.Nodup) (hin : ∀ e ∈ es, e.1 ∈ ns ∧ e.2 ∈ ns) (hz : es.length ≤ 100) (l1 : sa.length = ns.length) (l2 : pa.length = ns.length) (l3 : ts.length = es.length)
    (h : St σ G ((el, lst (ts.map .ref)) :: (x, ins cDi nd) :: (nd, sd prog w (ndl Sd Pd Nd Gd)) :: (Sd, dct prog w (refs ns sa)) :: (Pd, dct prog w (refs ns pa)) :: (nils prog w sa ++ (nils prog w pa ++ (segT ts es ++ R)))) s)
    (k : ∀ sr pr s', sr.length = ns.length → pr.length = ns.length → (∀ j n, ns[j]? = some n → (sr.getD j []).map (·.1) = succK es n ∧ (pr.getD j []).map (·.1) = predK es n) →
      St σ G ((x, ins cDi nd) :: (nd, sd prog w (ndl Sd Pd Nd Gd)) :: (Sd, dct prog w (refs ns sa)) :: (Pd, dct prog w (refs ns pa)) :: (segD prog w sa sr ++ (segD prog w pa pr ++ R))) s' → Q .none s') : CallF prog w A σ 848 [.ref x, .ref el] Q s := by
  obtain ⟨nm, ql, kV, doc, pm, an, cdv, ct, F⟩ := N.fAddE.fn X
  refine T_callPK (fun D => [("self", .ref x), ("ebunch_to_add", .ref el), ("attr", .ref D)]) F B.lim (by omega) h (fun D Lf s h => ?_)
  refine T_cons (T_for ?_)
  refine t_name h ?_
  refine t_iter h (fun it s h => ?_)
  have h := h.pick (E := [_, _, _, _, _, _, _, _]) (R := nils prog w sa ++ (nils prog w pa ++ (segT ts es ++ R))) [0, 3, 1, 2, 4, 5, 6, 7]
  rw [nils_segD, nils_segD] at h
  refine T_loop (Src.list (σ := σ) (G := G) (A := A.deeper _) (by exact hA) it el (ts.map .ref) _ _) (fun i L' => ∃ sr pr, sr.length = ns.length ∧ pr.length = ns.length ∧ (∀ j n, ns[j]? = some n → (sr.getD j []).map (·.1) = succK (es.take i) n ∧ (pr.getD j []).map (·.1) = predK (es.take i) n) ∧
      L' = (Lf, fr [("self", .ref x), ("ebunch_to_add", .ref el), ("attr", .ref D)]) :: (D, dct prog w []) :: (x, ins cDi nd) :: (nd, sd prog w (ndl Sd Pd Nd Gd)) ::
      (Sd, dct prog w (refs ns sa)) :: (Pd, dct prog w (refs ns pa)) :: (segD prog w sa sr ++ (segD prog w pa pr ++ (segT ts es ++ R)))) h ⟨_, _, by simp [l1], by simp [l2], ?_, rfl⟩ ?_ ?_
  · intro j n hj
    have hjl := (List.getElem?_eq_some_iff.mp hj).1
    simp [succK, predK, List.getD_eq_getElem?_getD, List.getElem?_replicate]
    constructor <;> split <;> rfl
  · rintro i v W L' s hi ⟨hv, rfl⟩ ⟨sr, pr, e1, e2, hk, rfl⟩ h
    rw [List.length_map] at hi
    obtain ⟨T, hT, rfl⟩ : ∃ T, ts[i]? = some T ∧ v = .ref T := by
      rw [List.getElem?_map] at hv
      obtain ⟨T, hT, e⟩ := Option.map_eq_some_iff.mp hv
      exact ⟨T, hT, e.symm⟩
    obtain ⟨⟨a, b⟩, hab⟩ : ∃ e, es[i]? = some e := ⟨_, List.getElem?_eq_getElem (by omega)⟩
    obtain ⟨ha, hb⟩ := hin _ (List.mem_of_getElem? hab)
    obtain ⟨ja, hja⟩ := List.mem_iff_getElem?.mp ha
    obtain ⟨jb, hjb⟩ := List.mem_iff_getElem?.mp hb
    have hja' := (List.getElem?_eq_some_iff.mp hja).1
    have hjb' := (List.getElem?_eq_some_iff.mp hjb).1
    obtain ⟨Sa, hSa⟩ : ∃ y, sa[ja]? = some y := ⟨_, List.getElem?_eq_getElem (by omega)⟩
    obtain ⟨Pb, hPb⟩ : ∃ y, pa[jb]? = some y := ⟨_, List.getElem?_eq_getElem (by omega)⟩
    obtain ⟨ra, hra⟩ : ∃ y, sr[ja]? = some y := ⟨_, List.getElem?_eq_getElem (by omega)⟩
    obtain ⟨rb, hrb⟩ : ∃ y, pr[jb]? = some y := ⟨_, List.getElem?_eq_getElem (by omega)⟩
    have mT : (T, tp2 a b) ∈ segT ts es := mem_segT hT hab
    have vA := refs_at hja hSa l1 hn
    have vB := refs_at hjb hPb l2 hn
    obtain ⟨Sb, hSb⟩ : ∃ y, sa[jb]? = some y := ⟨_, List.getElem?_eq_getElem (by omega)⟩
    have vAb := refs_at hjb hSb l1 hn
    have mA : (Sa, dct prog w ra) ∈ segD prog w sa sr := mem_segD hSa hra
    have mB : (Pb, dct prog w rb) ∈ segD prog w pa pr := mem_segD hPb hrb
    have kA : ra.map (·.1) = succK (es.take i) a := by have := (hk ja a hja).1; rw [List.getD_eq_getElem?_getD, hra] at this; exact this
    have kB : rb.map (·.1) = predK (es.take i) b := by have := (hk jb b hjb).2; rw [List.getD_eq_getElem?_getD, hrb] at this; exact this
    have hne : (a, b) ∉ es.take i := by
      intro hm
      obtain ⟨j, hj, e⟩ := List.getElem_of_mem hm
      rw [List.length_take] at hj
      rw [List.getElem_take] at e
      obtain ⟨hi', e'⟩ := List.getElem?_eq_some_iff.mp hab
      have := (List.getElem_inj hes).mp (e.trans e'.symm)
      omega
    have nA : b ∉ ra.map (·.1) := by
      rw [kA]
      simp only [succK, List.mem_map, List.mem_filter, not_exists, not_and]
      rintro ⟨p, q⟩ ⟨hm, e⟩ rfl
      exact hne ((eq_of_beq e : p = a) ▸ hm)
    have nB : a ∉ rb.map (·.1) := by
      rw [kB]
      simp only [predK, List.mem_map, List.mem_filter, not_exists, not_and]
      rintro ⟨p, q⟩ ⟨hm, e⟩ rfl
      exact hne ((eq_of_beq e : q = b) ▸ hm)
    have zA : ra.length ≤ 100 := by
      have := congrArg List.length kA
      have q := List.length_filter_le (fun e : Int × Int => e.1 == a) (es.take i)
      rw [List.length_map, succK, List.length_map] at this
      rw [List.length_take] at q
      omega
    have zB : rb.length ≤ 100 := by
      have := congrArg List.length kB
      have q := List.length_filter_le (fun e : Int × Int => e.2 == b) (es.take i)
      rw [List.length_map, predK, List.length_map] at this
      rw [List.length_take] at q
      omega
    refine T_assignN ?_
    refine t_store h (fun s h => ?_)
    refine T_cons (T_assignName (T_call (T_builtin B h g1 bt_len ?_)))
    refine T_with1 (T_args ?_)
    refine t_name h (T_args0 ?_)
    refine T_len2 (a := a) (b := b) h (by repeat (first | exact List.mem_append_right _ (List.mem_append_right _ (List.mem_append_left _ mT)) | apply List.Mem.tail)) (fun tl s h => ?_)
    refine t_store h (fun s h => ?_)
    refine T_cons (T_if (T_isCompare ?_))
    refine t_name h (T_int h (fun tl s h => T_eqInt (T_truthyBool ?_)))
    refine ite_no rfl ?_
    refine T_cons (T_if (T_isCompare ?_))
    refine t_name h (T_int h (fun tl s h => T_eqInt (T_truthyBool ?_)))
    refine ite_yes rfl ?_
    refine T_cons (T_assign ?_)
    refine t_name h (T_assignOne ?_)
    refine T_assign2 (a := a) (b := b) hA h (by repeat (first | exact List.mem_append_right _ (List.mem_append_right _ (List.mem_append_left _ mT)) | apply List.Mem.tail)) rfl (fun t u s h => T_order (T_assignN ?_))
    refine t_store h (fun s h => T_order (T_assignN ?_))
    refine t_store h (fun s h => T_order0 ?_)
    refine T_cons (T_assignName (D_display h (fun dd s h => ?_)))
    refine t_store h (fun s h => T_nil (T_nil ?_))
    refine T_cons (T_if (T_isCompare ?_))
    refine t_name h (T_attr ?_)
    refine t_name h ?_
    refine T_getOwn X N.di N.gSucc h (x := x) (dx := nd) (by repeat (first | exact List.Mem.head _ | apply List.Mem.tail)) (by repeat (first | exact List.Mem.head _ | apply List.Mem.tail)) rfl rfl (fun s h => ?_)
    refine D_notIn (d := Sd) h (by repeat (first | exact List.Mem.head _ | apply List.Mem.tail)) (fun s h => T_truthyBool ?_)
    rw [vA]
    refine ite_no rfl (T_nil ?_)
    refine T_cons (T_if (T_isCompare ?_))
    refine t_name h (T_attr ?_)
    refine t_name h ?_
    refine T_getOwn X N.di N.gSucc h (x := x) (dx := nd) (by repeat (first | exact List.Mem.head _ | apply List.Mem.tail)) (by repeat (first | exact List.Mem.head _ | apply List.Mem.tail)) rfl rfl (fun s h => ?_)
    refine D_notIn (d := Sd) h (by repeat (first | exact List.Mem.head _ | apply List.Mem.tail)) (fun s h => T_truthyBool ?_)
    rw [vAb]
    refine ite_no rfl (T_nil ?_)
    refine T_cons (T_assignName (T_method (T_sub (T_attr ?_))))
    refine t_name h ?_
    refine T_getOwn X N.di N.gAdj h (x := x) (dx := nd) (by repeat (first | exact List.Mem.head _ | apply List.Mem.tail)) (by repeat (first | exact List.Mem.head _ | apply List.Mem.tail)) rfl rfl (fun s h => ?_)
    refine t_name h ?_
    refine D_item (d := Sd) h (by repeat (first | exact List.Mem.head _ | apply List.Mem.tail)) vA (fun s h => ?_)
    refine D_getGet (d := Sa) h (by repeat (first | exact List.mem_append_left _ mA | apply List.Mem.tail)) ?_
    refine T_with1 (T_args ?_)
    refine t_name h (T_args ?_)
    refine T_method ?_
    refine t_name h ?_
    refine T_getMethodDict X N.di N.fac6 h (x := x) (dx := nd) (by repeat (first | exact List.Mem.head _ | apply List.Mem.tail)) (by repeat (first | exact List.Mem.head _ | apply List.Mem.tail)) rfl rfl (fun s h => ?_)
    refine T_withT0 (D_call0 h (fun c s h => T_args0 ?_))
    refine D_get2 (d := Sa) h (by repeat (first | exact List.mem_append_left _ mA | apply List.Mem.tail)) (fun s h => ?_)
    rw [valueAt_none nA]
    refine t_store h (fun s h => ?_)
    refine T_cons (T_expr (T_method ?_))
    refine t_name h ?_
    refine D_getUpdate (d := c) h (by repeat (first | exact List.Mem.head _ | apply List.Mem.tail)) ?_
    refine T_with1 (T_args ?_)
    refine t_name h (T_args0 ?_)
    refine D_update0 (d := c) (e := D) h (by repeat (first | exact List.Mem.head _ | apply List.Mem.tail)) (by repeat (first | exact List.Mem.head _ | apply List.Mem.tail)) (fun e => by have := h.nd; simp [e] at this) (by decide) (fun s h => ?_)
    refine T_cons (T_expr (T_method ?_))
    refine t_name h ?_
    refine D_getUpdate (d := c) h (by repeat (first | exact List.Mem.head _ | apply List.Mem.tail)) ?_
    refine T_with1 (T_args ?_)
    refine t_name h (T_args0 ?_)
    refine D_update0 (d := c) (e := dd) h (by repeat (first | exact List.Mem.head _ | apply List.Mem.tail)) (by repeat (first | exact List.Mem.head _ | apply List.Mem.tail)) (fun e => by have := h.nd; simp [e] at this) (by decide) (fun s h => ?_)
    refine T_cons (T_assign ?_)
    refine t_name h (T_assignOne (T_assignSub (T_sub (T_attr ?_))))
    refine t_name h ?_
    refine T_getOwn X N.di N.gSucc h (x := x) (dx := nd) (by repeat (first | exact List.Mem.head _ | apply List.Mem.tail)) (by repeat (first | exact List.Mem.head _ | apply List.Mem.tail)) rfl rfl (fun s h => ?_)
    refine t_name h ?_
    refine D_item (d := Sd) h (by repeat (first | exact List.Mem.head _ | apply List.Mem.tail)) vA (fun s h => ?_)
    refine t_name h ?_
    refine D_setItem (d := Sa) (kvs := ra) h (by repeat (first | exact put_more (put_segD _ hSa hra) _ | apply Put.there)) (by omega) (fun s h => ?_)
    refine T_cons (T_assign ?_)
    refine t_name h (T_assignOne (T_assignSub (T_sub (T_attr ?_))))
    refine t_name h ?_
    refine T_getOwn X N.di N.gPred h (x := x) (dx := nd) (by repeat (first | exact List.Mem.head _ | apply List.Mem.tail)) (by repeat (first | exact List.Mem.head _ | apply List.Mem.tail)) rfl rfl (fun s h => ?_)
    refine t_name h ?_
    refine D_item (d := Pd) h (by repeat (first | exact List.Mem.head _ | apply List.Mem.tail)) vB (fun s h => ?_)
    refine t_name h ?_
    refine D_setItem (d := Pb) (kvs := rb) h (by repeat (first | exact put_skip (put_more (put_segD _ hPb hrb) _) _ | apply Put.there)) (by omega) (fun s h => T_nil ?_)
    rw [stored_new nA, stored_new nB] at h
    have h := h.pick (E := [_, _, _, _, _, _, _, _, _, _]) (R := segD prog w sa (sr.set ja (ra ++ [(b, .ref c)])) ++ (segD prog w pa (pr.set jb (rb ++ [(a, .ref c)])) ++ (segT ts es ++ R))) [2, 3, 4, 5, 6, 7, 8, 9]
    have h := h.frame [_, _] [("self", .ref x), ("ebunch_to_add", .ref el), ("attr", .ref D)]
    refine ⟨_, ⟨_, _, by simpa using e1, by simpa using e2, ?_, rfl⟩, h⟩
    intro j n hj
    have hjl := (List.getElem?_eq_some_iff.mp hj).1
    obtain ⟨q1, q2⟩ := hk j n hj
    have ht : es.take (i + 1) = es.take i ++ [(a, b)] := by rw [List.take_add_one, hab]; rfl
    rw [List.getD_eq_getElem?_getD] at q1 q2 ⊢
    rw [List.getD_eq_getElem?_getD]
    rw [ht, succK, predK, List.filter_append, List.filter_append, List.map_append, List.map_append, List.getElem?_set, List.getElem?_set]
    have inj : ∀ {p q : Nat} {y : Int}, ns[p]? = some y → ns[q]? = some y → p = q := by
      intro p q y hp hq
      obtain ⟨p1, p2⟩ := List.getElem?_eq_some_iff.mp hp
      obtain ⟨r1, r2⟩ := List.getElem?_eq_some_iff.mp hq
      exact (List.getElem_inj hn).mp (p2.trans r2.symm)
    constructor
    · by_cases hc : ja = j
      · subst hc
        have en : n = a := Option.some.inj (hj.symm.trans hja)
        subst en
        rw [if_pos rfl, if_pos (by omega), Option.getD_some, List.map_append, kA]
        simp [succK]
      · rw [if_neg hc, q1]
        have : (a == n) = false := by
          refine Bool.eq_false_iff.mpr (fun e => hc ?_)
          rw [eq_of_beq e] at hja
          exact inj hja hj
        simp [succK, this]
    · by_cases hc : jb = j
      · subst hc
        have en : n = b := Option.some.inj (hj.symm.trans hjb)
        subst en
        rw [if_pos rfl, if_pos (by omega), Option.getD_some, List.map_append, kB]
        simp [predK]
      · rw [if_neg hc, q2]
        have : (b == n) = false := by
          refine Bool.eq_false_iff.mpr (fun e => hc ?_)
          rw [eq_of_beq e] at hjb
          exact inj hjb hj
        simp [predK, this]
  · rintro L' s ⟨sr, pr, e1, e2, hk, rfl⟩ h
    rw [List.length_map, l3, List.take_length] at hk
    have h := h.pick (E := [_, _, _, _, _, _, _]) (R := segD prog w sa sr ++ (segD prog w pa pr ++ (segT ts es ++ R))) [3, 4, 5, 6]
    exact T_nil (k sr pr s e1 e2 hk (h.sub (List.Sublist.append_left (List.Sublist.append_left (List.Sublist.append_left (List.sublist_append_right _ _) _) _) [_, _, _, _])))
end
end Mine

namespace Mine
open PySem PySem.W PySem.Calls PyProof.Rows

/-- one stretch of a generator's run in a clean context -/
def SegC (M : Model) (A : Around) (Z : End → Shared → Prop) (c : Code) (t : Sem Fin) (fs : List Frame) (s : Shared) : Prop :=
  ∀ Γ p, Γ.code = c → Γ.Woken A → CleanL Γ.below → ∃ e s', Runs M Γ p t fs s e s' ∧ Z e s'

section
variable {prog : Program} {w : World} {A : Around} {σ s s₀ s₁ : Shared} {G G' : Array GenState → Prop} {L L' X : List Cell} {env : Env}
variable {Z : End → Shared → Prop} {c : Code} {fs : List Frame} {K : Flow → Sem Fin} {H : Value → Sem Fin} {gd : Bool → Bool} {lv : List Value → List Value}

theorem s_of {t : Sem Fin} (h : SegZ (model prog w) A Z c t fs s) : SegC (model prog w) A Z c t fs s := fun Γ p hc hΓ _ => h Γ p hc hΓ
theorem s_wrap {α : Type} {m : Sem α} {K : α → Sem Fin} {H : Value → Sem Fin} (hn : notFin c = true)
    (h : Wc prog w (A.over c []) m (fun a s' => SegC (model prog w) A Z c (K a) [] s') s) : SegC (model prog w) A Z c (m.wrap K H gd lv) [] s := by
  rintro Γ p rfl hΓ hcl
  refine runs_wrap_of_wp K H gd lv m (h (Γ.over []) p (hΓ.over []) ⟨hn, ?_⟩) (fun a p' s' h' => h' Γ p' rfl hΓ hcl) (fun x p' s' h' => h'.elim)
  simpa [Ctx.over] using hcl
theorem s_point {l : List Value} {k : Unit → Sem Fin} (hn : notFin c = true) (h : SegC (model prog w) A Z c (k ()) [] s) : SegC (model prog w) A Z c (.point l k) [] s :=
  s_wrap (m := point) (K := k) (H := .raise) (gd := id) (lv := fun _ => l) hn (c_of (wpAny_point h))
theorem s_cons {st : Stmt} {rest : List Stmt} (k : SegC (model prog w) A Z c ((exec st env).wrap (seqK rest env K H gd lv) H gd lv) fs s) :
    SegC (model prog w) A Z c ((execs (st :: rest) env).wrap K H gd lv) fs s := by
  rw [execs_cons_wrap]
  refine Eq.mpr (congrArg (fun t => SegC (model prog w) A Z c t fs s) ?_) k
  exact Sem.wrap_congr _ _ _ (fun f => by cases f <;> rfl) (fun e => rfl)
/-- a statement without a yield -/
theorem s_st {st : Stmt} {rest : List Stmt} (hn : notFin c = true)
    (k : Wc prog w (A.over c []) (exec st env) (fun f s' => SegC (model prog w) A Z c (seqK rest env K H gd lv f) [] s') s) : SegC (model prog w) A Z c ((execs (st :: rest) env).wrap K H gd lv) [] s := s_cons (s_wrap hn k)
theorem s_func {body : List Stmt} (h : SegC (model prog w) A Z (.func body env) ((execs body env).wrap funK (funH env) id id) [] s) :
    SegC (model prog w) A Z (.func body env) ((model prog w).den (.func body env)) [] s := by
  show SegC _ A Z _ (.point [] fun _ => ((execs body env).onRaise (leaving env)) >>= _) [] s
  refine s_point rfl ?_
  rw [Sem.onRaise_eq_wrap, Sem.bind_eq_wrap', Sem.wrap_wrap]
  refine Eq.mpr (congrArg (fun t => SegC (model prog w) A Z (.func body env) t [] s) ?_) h
  exact Sem.wrap_congr _ _ _ (fun f => by cases f <;> rfl) (fun e => by rw [Sem.bind_eq_wrap, Sem.wrap_wrap]; rfl)
theorem c_resume {g : Nat} {cf : Code} {l : List Value} {α : Type} {k : GenResult → Sem α} {Q : α → Shared → Prop} (hg : s.gens[g]? = some (.fresh cf))
    (hgo : SegC (model prog w) A Z cf ((model prog w).den cf) [] (s.setGen g .running))
    (hZ : ∀ e s₁, Z e s₁ → e.quiet = true ∧ Wc prog w A (k e.result) Q (s₁.setGen g e.genState)) : Wc prog w A (.resume g (.send .none) l k) Q s := by
  intro Γ p hΓ hcl
  rw [Sem.wp_resume]
  obtain ⟨e₁, s₁, hr, he⟩ := hgo (Γ.wake cf p) p rfl (hΓ.wake cf p) hcl.enter
  exact ⟨_, _, by unfold Wakes; rw [hg]; exact ⟨e₁, s₁, hr, (hZ e₁ s₁ he).1, rfl, rfl⟩, (hZ e₁ s₁ he).2 Γ p hΓ hcl⟩

/-- the first value of a generator, in a clean context -/
theorem c_pyNext {a : Addr} {g : Nat} {cf : Code} {Z : End → Shared → Prop} {Q : Option Value → Shared → Prop}
    (hl : s.heap.NoLimit) (hroom : A.depth < recursionLimit) (hg : s.heap.IsGen a g) (hgs : s.gens[g]? = some (.fresh cf))
    (hgo : SegC (model prog w) A.in1 Z cf ((model prog w).den cf) [] (s.setGen g .running))
    (hZ : ∀ e s₁, Z e s₁ → e.quiet = true ∧ match e with
      | .ret _ => False
      | .susp v .. => Q (some v) (s₁.setGen g e.genState)) : Wc prog w A (pyNext (.ref a)) Q s := by
  unfold pyNext
  refine c_bind (c_attempt ?_)
  simp only [callSpecial?]
  refine c_bind (c_of (wpAny_specialOf hg.typeIs slot_gen_next.lookup ?_))
  simp only [slot_gen_next.bind]
  refine c_holding (c_bind (c_pure (c_bind (c_call ?_))))
  refine codeC_call_builtin slot_gen_next.plain entry_gen_next rfl (fun A' Q' q => slot_gen_next.check _ _ _ _ _ _ _ _ hg.typeIs (args_gen_next _) q) ?_
  show Wc _ _ A.in1 (Builtin.Generator.genWake (.ref a) (.send .none)) _ s
  unfold Builtin.Generator.genWake
  refine c_bind (c_holding (c_of (wpAny_genNumber hg (c_bind (c_of (wpAny_genState hgs ?_))))))
  refine c_bind (c_of (wpAny_roomToWake hl hroom ?_))
  show Wc _ _ _ (.resume g (.send .none) [] _) _ s
  refine c_resume hgs hgo (fun e s₁ he => ?_)
  have hz := hZ e s₁ he
  refine ⟨hz.1, ?_⟩
  cases e with
  | ret r => exact hz.2.elim
  | susp v g₀ l₀ k₀ c₀ p₀ fs₀ =>
    refine c_pure ?_
    refine c_pure ?_
    exact c_pure hz.2
end
end Mine

namespace Mine
open PySem PySem.W PySem.Calls PyProof.Rows

section
variable {prog : Program} {w : World} {A : Around} {σ s s₀ s₁ : Shared} {G G' : Array GenState → Prop} {L L' X : List Cell} {env : Env}

theorem codeC_loop2 {c : Code} {Q : Flow → Shared → Prop} (hn : notFin c = true) (hq : c.quiet = true) (I : Nat → Shared → Prop)
    (turn : ∀ n s, I n s → Wc prog w (A.under c) ((model prog w).den c) (fun fin s' => match fin with | .done f => Q f s' | .again c' => (c' = c ∧ ∃ m, m < n ∧ I m s') ∨ (c'.quiet = true ∧ codeC prog w A c' Q s')) s)
    (n : Nat) (h : I n s) : codeC prog w A c Q s := by
  induction n using Nat.strongRecOn generalizing s with
  | ind n ih =>
    refine codeC_of_tree hn (c_mono (turn n s h) (fun fin s' hf => ?_))
    cases fin with
    | done f => exact hf
    | again c' =>
      rcases hf with ⟨rfl, m, hm, hI⟩ | hf
      · exact ⟨hq, ih m hm hI⟩
      · exact hf
theorem codeC_block0 {Q : Flow → Shared → Prop} (h : Q .next s) (hu : A.under (Code.block [] env) = A := by exact Around.under_of_weight rfl) : codeC prog w A (.block [] env) Q s := by
  refine codeC_of_tree rfl ?_
  rw [hu]
  exact c_pure h
theorem c_for {tg iter : Expr} {body : List Stmt} {pos : Pos} {Q : Flow → Shared → Prop}
    (k : W prog w A (eval iter env) (fun x s₁ => W prog w A (pyIter x) (fun it s₂ => codeC prog w A (.forLoop tg it body [] env) Q s₂) s₁) s)
    (hs : ∀ x, foldedSetIterable iter env x = pure x := by intro _; rfl) : Wc prog w A (exec (.For tg iter body [] pos) env) Q s := by
  show Wc prog w A (standAt pos >>= fun _ => eval iter env >>= fun x₀ => foldedSetIterable iter env x₀ >>= fun x => standAt iter.pos >>= fun _ => holding [x] (pyIter x) >>= fun it => runOwn (.forLoop tg it body [] env) env) Q s
  refine c_bind (c_standAt (c_bind (c_of (W.mono k (fun x s₁ h₁ => ?_)))))
  rw [hs]
  refine c_bind (c_pure (c_bind (c_standAt (c_bind (c_holding (c_of (W.mono h₁ (fun it s₂ h₂ => ?_))))))))
  unfold runOwn
  refine c_onRaise (c_run (A := A) (h := none) ?_ (by intro x; cases x))
  exact h₂
theorem c_loop {it : Value} {tg : Expr} {body : List Stmt} {n : Nat} {D : List Cell} {I : Nat → List Cell} {V : Nat → Value → List Cell → Prop} {Gf : Nat → Array GenState → Prop} {Q : Flow → Shared → Prop}
    (S : Src prog w A σ Gf it tg n D I V) (Inv : Nat → List Cell → Prop) (h : St σ (Gf 0) (I 0 ++ L) s) (h0 : Inv 0 L)
    (turn : ∀ i v W L' s', i < n → V i v W → Inv i L' → St σ (Gf (i + 1)) (I (i + 1) ++ (W ++ L')) s' →
      Mine.W prog w A (assign tg env v) (fun _ s₂ => Mine.Wc prog w A (execs body env) (fun f s₃ => match f with
        | .next | .cont => ∃ L'', Inv (i + 1) L'' ∧ St σ (Gf (i + 1)) (I (i + 1) ++ L'') s₃
        | .brk => Q .next s₃
        | .ret v => Q (.ret v) s₃) s₂) s')
    (done : ∀ L' s', Inv n L' → St σ (Gf (n + 1)) (D ++ L') s' → Q .next s')
    (hu : A.under (Code.forLoop tg it body [] env) = A := by exact Around.under_of_weight rfl) : codeC prog w A (.forLoop tg it body [] env) Q s := by
  refine codeC_loop2 rfl rfl (fun m s => ∃ i L', i ≤ n ∧ m = n - i ∧ Inv i L' ∧ St σ (Gf i) (I i ++ L') s) ?_ n ⟨0, L, Nat.zero_le _, rfl, h0, h⟩
  rintro m s ⟨i, L', hi, rfl, hI, hS⟩
  rw [hu]
  show Wc _ _ A ((forTurn tg it body [] env).onRaise (fun x => do noteFrame x env; theTreesLotGoes x)) _ s
  refine c_onRaise ?_
  unfold forTurn
  refine c_bind (c_standAt (c_bind (c_onRaise (c_of ?_))))
  rcases Nat.lt_or_eq_of_le hi with hlt | rfl
  · refine W.mono (S.next (K := fun v s₂ => W prog w A (assign tg env v) (fun _ s₂ => Wc prog w A (execs body env) (fun f s₃ => match f with
        | .next | .cont => ∃ L'', Inv (i + 1) L'' ∧ St σ (Gf (i + 1)) (I (i + 1) ++ L'') s₃
        | .brk => Q .next s₃
        | .ret v => Q (.ret v) s₃) s₂) s₂) hlt hS (fun v W s' hV hS' => turn i v W L' s' hlt hV hI hS')) (fun r s₁ hr => ?_)
    cases r with
    | none => exact hr.elim
    | some v =>
      refine c_bind (c_of (W.mono hr (fun _ s₂ h₂ => c_bind (c_of (W.mono h₂ (fun _ s₃ h₃ => c_bind (c_mono h₃ (fun f s₄ h₄ => ?_))))))))
      cases f with
      | next => obtain ⟨L'', q1, q2⟩ := h₄; exact c_pure (.inl ⟨rfl, n - (i + 1), by omega, i + 1, L'', hlt, rfl, q1, q2⟩)
      | cont => obtain ⟨L'', q1, q2⟩ := h₄; exact c_pure (.inl ⟨rfl, n - (i + 1), by omega, i + 1, L'', hlt, rfl, q1, q2⟩)
      | brk => exact c_pure h₄
      | ret v => exact c_pure h₄
  · refine W.mono (S.stop (K := fun s₁ => Q .next s₁) hS (fun s' hS' => done L' s' hI hS')) (fun r s₁ hr => ?_)
    cases r with
    | none => exact c_pure (.inr ⟨rfl, codeC_block0 hr⟩)
    | some v => exact hr.elim
end
end Mine

namespace Mine
open PySem PySem.W PySem.Calls PyProof.Rows

/-- a generator whose next values are had in clean contexts -/
structure SrcC (prog : Program) (w : World) (A : Around) (σ : Shared) (G : Nat → List Cell → Array GenState → Prop) (Ge : Array GenState → Prop) (it : Value) (tg : Expr) (n : Nat) (D : List Cell → Prop) (I : Nat → List Cell → Prop) (V : Nat → Value → List Cell → Prop) : Prop where
  next : ∀ {i : Nat} {X L : List Cell} {s : Shared} {K : Value → Shared → Prop}, i < n → I i X → St σ (G i X) (X ++ L) s → (∀ v W X' s', V i v W → I (i + 1) X' → St σ (G (i + 1) X') (X' ++ (W ++ L)) s' → K v s') →
    Wc prog w A (pyNext it) (fun r s₁ => match r with | none => False | some v => W prog w A (letOwnedTupleGo tg it v) (fun _ s₂ => K v s₂) s₁) s
  stop : ∀ {X L : List Cell} {s : Shared} {K : Shared → Prop}, I n X → St σ (G n X) (X ++ L) s → (∀ X' s', D X' → St σ Ge (X' ++ L) s' → K s') → Wc prog w A (pyNext it) (fun r s₁ => match r with | none => K s₁ | some _ => False) s

section
variable {prog : Program} {w : World} {A : Around} {σ s s₀ s₁ : Shared} {G G' : Array GenState → Prop} {L L' X : List Cell} {env : Env}

theorem c_compLoop {e : Expr} {d : Nat} {it acc : Value} {tg : Expr} {ip : Pos} {ifs : List Expr} {inner : Sem Unit} {n : Nat} {D : List Cell → Prop} {I : Nat → List Cell → Prop} {V : Nat → Value → List Cell → Prop} {Gf : Nat → List Cell → Array GenState → Prop} {Ge : Array GenState → Prop} {Q : Shared → Prop}
    (ht : compTurn e d it acc env = turnOf e d it acc env tg ip ifs inner)
    (S : SrcC prog w A σ Gf Ge it tg n D I V) (Inv : Nat → List Cell → Prop) (hX : I 0 X) (h : St σ (Gf 0 X) (X ++ L) s) (h0 : Inv 0 L)
    (turn : ∀ i v W X L' s', i < n → V i v W → Inv i L' → I (i + 1) X → St σ (Gf (i + 1) X) (X ++ (W ++ L')) s' →
      Mine.W prog w A (assign tg env v) (fun _ s₂ => Tests prog w A ifs env (fun ok s₃ =>
        if ok = true then Mine.W prog w A inner (fun _ s₄ => ∃ L'', Inv (i + 1) L'' ∧ St σ (Gf (i + 1) X) (X ++ L'') s₄) s₃ else ∃ L'', Inv (i + 1) L'' ∧ St σ (Gf (i + 1) X) (X ++ L'') s₃) s₂) s')
    (done : ∀ X' L' s', D X' → Inv n L' → St σ Ge (X' ++ L') s' → Q s')
    (hq : (Code.compLoop e d it acc env).quiet = true := by rfl) (hf : (Code.compLoop e d it acc env).isFrame = false := by rfl)
    (hu : A.under (Code.compLoop e d it acc env) = A := by exact Around.under_of_weight rfl) : codeC prog w A (.compLoop e d it acc env) (fun _ s' => Q s') s := by
  refine codeC_loop rfl hq (fun m s => ∃ i X L', i ≤ n ∧ m = n - i ∧ Inv i L' ∧ I i X ∧ St σ (Gf i X) (X ++ L') s) ?_ n ⟨0, X, L, Nat.zero_le _, rfl, h0, hX, h⟩
  rintro m s ⟨i, X, L', hi, rfl, hI, hX, hS⟩
  rw [hu]
  show Wc _ _ A (denote table (.compLoop e d it acc env)) _ s
  have hden : denote table (.compLoop e d it acc env) = (compTurn e d it acc env).onRaise (fun x => do noteFrame x env; theTreesLotGoes x) := by
    show (if (Code.compLoop e d it acc env).isFrame = true then _ else _) = _
    rw [hf]; rfl
  rw [hden]
  refine c_onRaise ?_
  rw [ht]
  unfold turnOf
  refine c_bind (c_standAt (c_bind ?_))
  rcases Nat.lt_or_eq_of_le hi with hlt | rfl
  · refine c_mono (S.next (K := fun v s₂ => ∃ X, I (i + 1) X ∧ W prog w A (assign tg env v) (fun _ s₂ => Tests prog w A ifs env (fun ok s₃ =>
        if ok = true then W prog w A inner (fun _ s₄ => ∃ L'', Inv (i + 1) L'' ∧ St σ (Gf (i + 1) X) (X ++ L'') s₄) s₃ else ∃ L'', Inv (i + 1) L'' ∧ St σ (Gf (i + 1) X) (X ++ L'') s₃) s₂) s₂) hlt hX hS (fun v W X' s' hV hX' hS' => ⟨X', hX', turn i v W X' L' s' hlt hV hI hX' hS'⟩)) (fun r s₁ hr => ?_)
    cases r with
    | none => exact hr.elim
    | some v =>
      refine c_bind (c_of (W.mono hr (fun _ s₂ h₂ => ?_)))
      obtain ⟨X', hX', h₂⟩ := h₂
      refine c_bind (c_of (W.mono h₂ (fun _ s₃ h₃ => c_bind (c_of (W.mono h₃ (fun ok s₄ h₄ => ?_))))))
      cases ok with
      | true =>
        refine c_bind (c_of (W.mono h₄ (fun _ s₅ h₅ => ?_)))
        obtain ⟨L'', q1, q2⟩ := h₅
        exact c_pure ⟨rfl, n - (i + 1), by omega, i + 1, X', L'', hlt, rfl, q1, hX', q2⟩
      | false =>
        obtain ⟨L'', q1, q2⟩ := h₄
        exact c_pure ⟨rfl, n - (i + 1), by omega, i + 1, X', L'', hlt, rfl, q1, hX', q2⟩
  · refine c_mono (S.stop (K := fun s₁ => Q s₁) hX hS (fun X' s' hD hS' => done X' L' s' hD hI hS')) (fun r s₁ hr => ?_)
    cases r with
    | none => exact c_pure hr
    | some v => exact hr.elim

theorem c_compStart {e : Expr} {d : Nat} {it acc : Value} {g : Comprehension} {Q : Shared → Prop} (hg : (clausesOf e)[d]? = some g) (ha : (g.is_async != 0) = false)
    (h0 : codeC prog w A (.compLoop e d it acc env) (fun _ s' => Q s') s) (h1 : W prog w A (pyIter it) (fun it' s' => codeC prog w A (.compLoop e d it' acc env) (fun _ s' => Q s') s') s)
    (hf : (Code.compStart e d it acc env).isFrame = false := by rfl) (hu : A.under (Code.compStart e d it acc env) = A := by exact Around.under_of_weight rfl)
    (hq : ∀ it', (Code.compLoop e d it' acc env).quiet = true := by intro _; rfl) : codeC prog w A (.compStart e d it acc env) (fun _ s' => Q s') s := by
  refine codeC_of_tree rfl ?_
  rw [hu]
  show Wc _ _ A (denote table (.compStart e d it acc env)) _ s
  have hden : denote table (.compStart e d it acc env) = (compStart e d it acc env).onRaise (fun x => do noteFrame x env; standAt theWindowsPlace) := by
    show (if (Code.compStart e d it acc env).isFrame = true then _ else _) = _
    rw [hf]; rfl
  rw [hden]
  refine c_onRaise ?_
  unfold compStart
  rw [hg]
  have e1 : (some g).elim false (fun x => x.is_async != 0) = false := ha
  simp only [e1, Bool.false_eq_true, if_false]
  first
    | refine c_bind (c_of (wpAny_askSetting ?_))
    | refine c_bind (c_pure (c_bind (c_of (wpAny_askSetting ?_))))
  refine c_ite ?_
  split
  · first
      | exact c_bind (c_pure (c_pure (And.intro (hq _) h0)))
      | exact c_pure (And.intro (hq _) h0)
  · refine c_bind (c_rule ?_)
    first
      | exact c_bind (c_standAt (c_bind (c_of (W.mono h1 (fun it' s' h' => c_pure (And.intro (hq _) h'))))))
      | exact c_bind (c_bind (c_standAt (c_bind (c_of (W.mono h1 (fun it' s' h' => c_pure (And.intro (hq _) h')))))))
end
end Mine

namespace Mine
open PySem PySem.W PySem.Calls PyProof.Rows

theorem c_standIf_any {prog : Program} {w : World} {A : Around} {s : Shared} {α : Type} {b : Bool} {p : Pos} {k : Unit → Sem α} {Q : α → Shared → Prop} (h : Wc prog w A (k ()) Q s) : Wc prog w A (if b = true then standAt p >>= k else k ()) Q s := by
  cases b
  · exact h
  · exact c_bind (c_standAt h)
/-- the names that a comprehension lets go are its own -/
theorem lets_of {scope : Scope} {cenv env : Env} {vs : List (Str × NameKind)} (own : ∀ x ∈ scope.names, x.2 = .local → scope.names.lookup x.1 = some .local) (sub : ∀ x ∈ vs, x ∈ scope.names) :
    ∀ x ∈ vs, x.2 = .local → Env.kindOf { cenv with scope := relabel scope env } x.1 = some .local :=
  fun x hx hl => lookup_relabel_local (own x (sub x hx) hl)
theorem turned {α : Type} {l : List α} {x : α} (hx : x ∈ l.drop 1 ++ l.take 1) : x ∈ l := (List.mem_append.mp hx).elim List.mem_of_mem_drop List.mem_of_mem_take

section
variable {prog : Program} {w : World} {A : Around} {σ s s₀ s₁ : Shared} {G G' : Array GenState → Prop} {L L' X : List Cell} {env : Env}

def CRunC (prog : Program) (w : World) (A : Around) (e : Expr) (scope : Scope) (cl : List (Str × Addr)) (newAcc : Sem Value) (use : Option (Value → Sem Unit)) (env : Env) (it : Value) (Q : Value → Shared → Prop) (s : Shared) : Prop :=
  W prog w A newAcc (fun acc s₃ => W prog w A (newFunctionEnv scope env.globals cl [] env.qual none .none (some env)) (fun cenv s₄ =>
    codeC prog w A (.compStart e 0 it acc { cenv with scope := relabel scope env }) (fun f s' => compPost (model prog w) A (fun _ _ => False) use Q acc cenv.locals (.ok f) s') s₄) s₃) s

theorem c_compFree {e : Expr} {scope : Scope} {pos : Pos} {newAcc first : Sem Value} {g : Comprehension} {gs : List Comprehension} {cl : List (Str × Addr)} {use : Option (Value → Sem Unit)}
    {Q : Value → Shared → Prop}
    (hcl : clausesOf e = g :: gs) (hs : ∀ x, foldedSetIterable g.iter env x = pure x) (hclos : closureFor scope env = pure cl)
    (hkind : scope.kind = .function) (hnames : ∀ x ∈ scope.names, x.2 = .local → scope.names.lookup x.1 = some .local)
    (h : Wc prog w A first (fun x s₁ => W prog w A (pyIter x) (fun it s₂ => CRunC prog w A e scope cl newAcc use env it Q s₂) s₁) s) :
    Wc prog w A (comprehension e scope env pos newAcc false first use) Q s := by
  unfold comprehension
  rw [hclos, hcl]
  refine c_bind (c_mono h (fun x s₁ h₁ => c_bind (c_standAt (c_bind ?_))))
  rw [hs]
  refine c_pure (c_bind (c_holding (c_of (W.mono h₁ (fun it s₂ h₂ => ?_)))))
  refine c_standIf_any ?_
  refine c_bind (c_of (W.mono h₂ (fun acc s₃ h₃ => c_bind (c_pure (c_bind (c_of (W.mono h₃ (fun cenv s₄ h₄ => ?_)))))))) 
  dsimp only
  refine c_holding (c_bind (c_attempt (c_holding (c_run (codeC_mono h₄ fun f s' hr => ?_) (by intro x; cases x)))))
  cases use with
  | none =>
    obtain ⟨m, hn, hr⟩ := hr
    exact c_bind (c_holding (c_of (wpAny_comp_letGo (cenv := { cenv with scope := relabel scope env }) hkind _ s' m (lets_of hnames fun x hx => (List.mem_filter.mp (List.mem_reverse.mp hx)).1) hn fun h' m' _ hs' => c_pure (hr h' hs'))))
  | some u =>
    refine c_bind (c_rule (c_bind (c_holding (c_of (wpAny_mono hr (fun _ s'' hr' => ?_) fun _ _ h' => h')))))
    obtain ⟨m, hn, hr'⟩ := hr'
    exact c_bind (c_of (wpAny_comp_letGo (cenv := { cenv with scope := relabel scope env }) hkind _ s'' m (lets_of hnames fun x hx => (List.mem_filter.mp (List.mem_reverse.mp (turned hx))).1) hn fun h' m' _ hs' => c_pure (hr' h' hs')))

theorem c_assignListComp {elt : Expr} {tg iter : Expr} {ifs : List Expr} {gs : List Comprehension} {scope : Scope} {pos spos pos' : Pos} {x : Str} (cl : List (Str × Addr)) {Q : Flow → Shared → Prop} (hclos : closureFor scope env = pure cl)
    (k : Wc prog w A (eval iter env) (fun x₀ s₁ => W prog w A (pyIter x₀) (fun it s₂ => CRunC prog w A (.ListComp elt (⟨tg, iter, ifs, 0⟩ :: gs) scope pos) scope cl (newList []) (some (assign (.Name x pos') env)) env it (fun _ => Q .next) s₂) s₁) s)
    (hsw : swapsWith (.ListComp elt (⟨tg, iter, ifs, 0⟩ :: gs) scope pos) (some (.Name x pos')) spos.line env = pure true := by rfl)
    (hs : ∀ x, foldedSetIterable iter env x = pure x := by intro _; rfl) (hk : scope.kind = .function := by rfl)
    (hn : scope.names.all (fun x => !(x.2 == .local) || decide (scope.names.lookup x.1 = some .local)) = true := by decide +kernel) (ha : firstAsync (⟨tg, iter, ifs, 0⟩ :: gs) = false := by rfl) :
    Wc prog w A (exec (.Assign [.Name x pos'] (.ListComp elt (⟨tg, iter, ifs, 0⟩ :: gs) scope pos) spos) env) Q s := by
  rw [exec_Assign_Name_used _ _ _ _ hsw, arm_evalThenUse_ListComp]
  refine c_bind (c_standAt (c_bind (c_bind ?_)))
  show Wc prog w A (comprehension (.ListComp elt (⟨tg, iter, ifs, 0⟩ :: gs) scope pos) scope env _ (newList []) (firstAsync (⟨tg, iter, ifs, 0⟩ :: gs)) (eval iter env) (some (assign (.Name x pos') env))) _ s
  rw [ha]
  refine c_mono (c_compFree (g := ⟨tg, iter, ifs, 0⟩) (gs := gs) rfl hs hclos hk (names_ok hn) k) (fun a s' h => c_pure (c_pure h))
theorem c_assignDictComp {kx vx : Expr} {tg iter : Expr} {ifs : List Expr} {gs : List Comprehension} {scope : Scope} {pos spos pos' : Pos} {x : Str} (cl : List (Str × Addr)) {Q : Flow → Shared → Prop} (hclos : closureFor scope env = pure cl)
    (k : Wc prog w A (eval iter env) (fun x₀ s₁ => W prog w A (pyIter x₀) (fun it s₂ => CRunC prog w A (.DictComp kx vx (⟨tg, iter, ifs, 0⟩ :: gs) scope pos) scope cl newDict (some (assign (.Name x pos') env)) env it (fun _ => Q .next) s₂) s₁) s)
    (hsw : swapsWith (.DictComp kx vx (⟨tg, iter, ifs, 0⟩ :: gs) scope pos) (some (.Name x pos')) spos.line env = pure true := by rfl)
    (hs : ∀ x, foldedSetIterable iter env x = pure x := by intro _; rfl) (hk : scope.kind = .function := by rfl)
    (hn : scope.names.all (fun x => !(x.2 == .local) || decide (scope.names.lookup x.1 = some .local)) = true := by decide +kernel) (ha : firstAsync (⟨tg, iter, ifs, 0⟩ :: gs) = false := by rfl) :
    Wc prog w A (exec (.Assign [.Name x pos'] (.DictComp kx vx (⟨tg, iter, ifs, 0⟩ :: gs) scope pos) spos) env) Q s := by
  rw [exec_Assign_Name_used _ _ _ _ hsw, arm_evalThenUse_DictComp]
  refine c_bind (c_standAt (c_bind (c_bind ?_)))
  show Wc prog w A (comprehension (.DictComp kx vx (⟨tg, iter, ifs, 0⟩ :: gs) scope pos) scope env _ newDict (firstAsync (⟨tg, iter, ifs, 0⟩ :: gs)) (eval iter env) (some (assign (.Name x pos') env))) _ s
  rw [ha]
  refine c_mono (c_compFree (g := ⟨tg, iter, ifs, 0⟩) (gs := gs) rfl hs hclos hk (names_ok hn) k) (fun a s' h => c_pure (c_pure h))

/-- the states of the generators may differ at the two ends -/
theorem c_crunUse {e : Expr} {scope : Scope} {cl : List (Str × Addr)} {newAcc : Sem Value} {it : Value} {P0 : Pr} {u : Value → Sem Unit} {Q : Value → Shared → Prop} (h : St σ G L s)
    (hacc : ∀ (Q : Value → Shared → Prop), (∀ a s', St σ G ((a, P0) :: L) s' → Q (.ref a) s') → W prog w A newAcc Q s)
    (k : ∀ a Cc s', St σ G ((Cc, fr []) :: (a, P0) :: L) s' → codeC prog w A (.compStart e 0 it (.ref a) (compEnvC scope cl Cc env)) (fun _ s'' => W prog w A (u (.ref a)) (fun _ s₂ => ∃ lx L'', St σ G' ((Cc, fr lx) :: L'') s₂ ∧ ∀ s₃, St σ G' L'' s₃ → Q .none s₃) s'') s')
    (hk : scope.kind = .function := by rfl) (hc : scope.names.all (fun x => !(x.2 == .cell)) = true := by decide +kernel) : CRunC prog w A e scope cl newAcc (some u) env it Q s := by
  refine hacc _ (fun a s₃ h₃ => T_newFrame h₃ (nocell_ok hc) hk (fun Cc s₄ h₄ => codeC_mono (k a Cc s₄ h₄) (fun f s' hr => ?_)))
  refine W.mono hr (fun _ s₂ h₂ => ?_)
  obtain ⟨lx, L'', hS, hq⟩ := h₂
  obtain ⟨m, hm, hx⟩ := comp_end hS
  exact ⟨m, hm, fun h' hs => hq _ (hx h' hs)⟩
/-- a plain code serves as well -/
theorem codeC_ofC {c : Code} {Q : Flow → Shared → Prop} (h : C prog w A c Q s) : codeC prog w A c Q s := codeC_of (codeAny_mono h (fun r s' z => by cases r <;> exact z))
end
end Mine

namespace Mine
open PySem PySem.W PySem.Calls PyProof.Rows

section
variable {prog : Program} {w : World} {A : Around} {σ s : Shared} {G : Array GenState → Prop} {L L' : List Cell} {env : Env} {K : Frag}

/-- a call of a function with variables that inner functions use, in a clean context -/
theorem C_callC {a : Addr} {fd : FuncData} {body : List Stmt} {vals : List Value} (binds lb : List (Str × Value)) (cs : Nat → List (Str × Addr)) (cm : Str → Option Value) {Q : Value → Shared → Prop} (F : Fn σ a fd) (hlim : σ.heap.NoLimit) (hd : A.depth ≤ 900) (h : St σ G L s)
    (k : ∀ Lf s₂, St σ G ((Lf, fr lb) :: ((cs (Lf + 1)).map (fun p => (p.2, cel (cm p.1))) ++ L)) s₂ → Wc prog w (A.deeper (callEnvC fd Lf a)) (execs body (callEnvC fd Lf a)) (fun f s'' => Q (retV f) s'') s₂)
    (hcs : ∀ n, cellsFrom n fd.scope.names [] = cs n := by intro _; rfl)
    (hb : bindArgs fd ⟨vals, []⟩ = pure binds := by rfl)
    (hlb : ∀ n, Each (fun p => bindL (callEnvC fd n a).kindOf binds (fun _ => none) p.1 = some p.2) lb := by intro n; repeat (first | exact trivial | refine And.intro (by rfl) ?_))
    (hcm : ∀ n, Each (fun p => (cs (n + 1)).lookup p.1 = some p.2 ∧ bindC (callEnvC fd n a).kindOf binds (fun _ => none) p.1 = cm p.1) (cs (n + 1)) := by intro n; repeat (first | exact trivial | refine And.intro ⟨by rfl, by rfl⟩ ?_))
    (hkind : ∀ n, Each (fun x => fd.scope.names.lookup x.1 = some .local ∨ (fd.scope.names.lookup x.1 = some .cell ∧ ((cs n).lookup x.1).isSome = true)) binds := by intro n; repeat (first | exact trivial | refine And.intro (Or.inl (by rfl)) ?_ | refine And.intro (Or.inr ⟨by rfl, by rfl⟩) ?_))
    (hclo : fd.closure = [] := by rfl)
    (hbody : fd.body = .stmts body := by rfl)
    (hco : fd.scope.isCoroutine = false := by rfl) (hgen : fd.scope.isGenerator = false := by rfl) (hk : fd.scope.kind = .function := by rfl) :
    CallC prog w A σ a vals Q s := by
  refine ⟨fun o ho => h.keep _ _ ho, ?_⟩
  obtain ⟨o, ho, hdat, _⟩ := F.obj
  have hroom : A.depth < recursionLimit := Nat.lt_of_le_of_lt hd (by decide)
  refine codeC_callFn hroom (h.keep _ _ ho) hdat hco hgen hbody (F.code.keeps h.keep) ?_
  rw [hb, hclo]
  refine wpAny_pure ?_
  refine wpAny_newFunctionEnv_cells hk (fun x hx => ?_) (fun env he s₁ X => ?_)
  · rw [hcs]
    exact (hkind _).mem x hx
  subst he
  have hcells : (callEnvC fd s.heap.objs.size a).cells = cs (s.heap.objs.size + 1) := hcs _
  have hlocals : (callEnvC fd s.heap.objs.size a).locals = s.heap.objs.size := rfl
  have X : InCallC s (callEnvC fd s.heap.objs.size a).locals (bindL (callEnvC fd s.heap.objs.size a).kindOf binds fun _ => none) (callEnvC fd s.heap.objs.size a).cells (bindC (callEnvC fd s.heap.objs.size a).kindOf binds fun _ => none) s₁ := X
  obtain ⟨h₁, tk, rfl⟩ := X.toInCall.same
  refine ⟨(hlim.keeps h.keep).keeps X.toInCall.keep, codeC_func ?_⟩
  have h3 : St σ G (((s.heap.objs.size, fr lb) :: (cs (s.heap.objs.size + 1)).map (fun p => (p.2, cel (cm p.1)))) ++ L) { s with heap := h₁, toks := tk } := by
    refine h.growAll (fun b o e => X.toInCall.keep b o e) (fun p hp => ?_) ?_
    · rcases List.mem_cons.mp hp with rfl | hp
      · refine ⟨Nat.le_refl _, ?_⟩
        obtain ⟨o, es, ep, ho, hd, hsk, hf⟩ := X.toInCall.ns
        exact ⟨o, ho, es, ep, hd, hsk, fun p hp => (hf p.1).trans ((hlb _).mem p hp)⟩
      · obtain ⟨q, hq, rfl⟩ := List.mem_map.mp hp
        refine ⟨Nat.le_of_lt (X.above q.1 q.2 (by rw [hcells]; exact hq)), ?_⟩
        obtain ⟨o, ho, e⟩ := X.cell q.1 q.2 (by rw [hcells]; exact ((hcm _).mem q hq).1)
        exact ⟨o, ho, e.trans (by rw [((hcm _).mem q hq).2])⟩
    · rw [List.map_cons, List.nodup_cons]
      constructor
      · intro hm
        obtain ⟨p, hp, e⟩ := List.mem_map.mp hm
        obtain ⟨q, hq, rfl⟩ := List.mem_map.mp hp
        have := X.above q.1 q.2 (by rw [hcells]; exact hq)
        rw [hlocals] at this
        have e' : q.2 = s.heap.objs.size := e
        rw [e'] at this
        exact Nat.lt_irrefl _ this
      · rw [List.map_map]
        have hap := X.apart
        rw [hcells] at hap
        exact List.pairwise_map.mpr hap
  exact k _ _ h3

-- STATEMENTS IN CLEAN CONTEXTS
theorem c_expr {e : Expr} {pos : Pos} {Q : Flow → Shared → Prop} (k : W prog w A (exec (.Expr e pos) env) Q s) : Wc prog w A (exec (.Expr e pos) env) Q s := c_of k
theorem CallC.ret {a : Addr} {vals : List Value} {Q : Value → Shared → Prop} (h : CallC prog w A σ a vals Q s) : Wc prog w A (call (.ref a) vals) Q s := h.run
end
end Mine

namespace Mine
open PySem PySem.W PySem.Calls PyProof.Rows

/-- a dict of counts, as plain pairs -/
inductive DV : List (Int × Int) → List (Int × Value) → Prop
  | nil : DV [] []
  | cons {k d : Int} {t : Tok} {a : List (Int × Int)} {b : List (Int × Value)} (r : DV a b) : DV ((k, d) :: a) ((k, .int d t) :: b)
def kVal (ind : List (Int × Int)) (c : Int) : Option Int := (ind.find? fun p => p.1 = c).map (·.2)
def kPut (ind : List (Int × Int)) (c d : Int) : List (Int × Int) := ind.map fun p => if p.1 = c then (p.1, d) else p
def kDel (ind : List (Int × Int)) (c : Int) : List (Int × Int) := ind.filter fun p => decide (p.1 ≠ c)
def kChild (st : List (Int × Int) × List Int) (c : Int) : List (Int × Int) × List Int :=
  match kVal st.1 c with
  | none => st
  | some d => if d - 1 = 0 then (kDel st.1 c, st.2 ++ [c]) else (kPut st.1 c (d - 1), st.2)

theorem DV.length {a : List (Int × Int)} {b : List (Int × Value)} (h : DV a b) : b.length = a.length := by
  induction h with
  | nil => rfl
  | cons _ ih => simp [ih]
theorem DV.snoc {a : List (Int × Int)} {b : List (Int × Value)} (h : DV a b) (k d : Int) (t : Tok) : DV (a ++ [(k, d)]) (b ++ [(k, .int d t)]) := by
  induction h with
  | nil => exact .cons .nil
  | cons _ ih => exact .cons ih
theorem DV.keys {a : List (Int × Int)} {b : List (Int × Value)} (h : DV a b) : b.map (·.1) = a.map (·.1) := by
  induction h with
  | nil => rfl
  | cons _ ih => simp [ih]
theorem DV.gone {a : List (Int × Int)} {b : List (Int × Value)} (h : DV a b) {c : Int} (hv : kVal a c = none) : valueAt b c = none := by
  induction h with
  | nil => rfl
  | @cons k d t a b _ ih =>
    unfold kVal valueAt at *
    by_cases e : k = c
    · simp [e] at hv
    · simpa [e] using ih (by simpa [e] using hv)
theorem DV.held {a : List (Int × Int)} {b : List (Int × Value)} (h : DV a b) {c d : Int} (hv : kVal a c = some d) : ∃ t, valueAt b c = some (.int d t) := by
  induction h with
  | nil => simp [kVal] at hv
  | @cons k d t a b _ ih =>
    unfold kVal valueAt at *
    by_cases e : k = c
    · simp [e] at hv
      exact ⟨t, by simp [e, hv]⟩
    · simpa [e] using ih (by simpa [e] using hv)
theorem DV.del {a : List (Int × Int)} {b : List (Int × Value)} (h : DV a b) (c : Int) : DV (kDel a c) (without b c) := by
  induction h with
  | nil => exact .nil
  | @cons k d t a b _ ih =>
    unfold kDel without at *
    by_cases e : k = c
    · simpa [e] using ih
    · simpa [e] using DV.cons ih
theorem DV.map {a : List (Int × Int)} {b : List (Int × Value)} (h : DV a b) (c d' : Int) (t' : Tok) : DV (kPut a c d') (b.map (fun kv => if kv.1 = c then (kv.1, Value.int d' t') else kv)) := by
  induction h with
  | nil => exact .nil
  | @cons k d t a b _ ih =>
    unfold kPut at *
    by_cases e : k = c
    · simpa [e] using DV.cons ih
    · simpa [e] using DV.cons ih
theorem DV.put {a : List (Int × Int)} {b : List (Int × Value)} (h : DV a b) {c d : Int} (hv : kVal a c = some d) (d' : Int) (t' : Tok) : DV (kPut a c d') (stored b c (.int d' t')) := by
  unfold stored
  rw [if_pos ?_]
  · exact h.map c d' t'
  · obtain ⟨t, ht⟩ := h.held hv
    unfold valueAt at ht
    cases hf : b.find? (fun kv => decide (kv.1 = c)) with
    | none => simp [hf] at ht
    | some p => exact List.any_eq_true.mpr ⟨p, List.mem_of_find?_eq_some hf, by simpa using List.find?_some hf⟩
end Mine

namespace Mine
open PySem PySem.W PySem.Calls PyProof.Rows

/-- a dict of counts -/
def dci (prog : Program) (w : World) (ind : List (Int × Int)) : Pr := fun o => ∃ kvs, DV ind kvs ∧ dct prog w kvs o
def kFine : List (Int × Int) × List Int → List Int → Prop
  | _, [] => True
  | st, c :: cs => (kVal st.1 c).isSome = true ∧ kFine (kChild st c) cs
theorem kFine_append {a b : List Int} : ∀ {st}, kFine st (a ++ b) → kFine st a ∧ kFine (a.foldl kChild st) b := by
  induction a with
  | nil => intro st h; exact ⟨trivial, h⟩
  | cons c r ih => intro st h; exact ⟨⟨h.1, (ih h.2).1⟩, (ih h.2).2⟩
theorem kFine_at {cs : List Int} {j : Nat} {c : Int} {st} (h : kFine st cs) (hj : cs[j]? = some c) : (kVal ((cs.take j).foldl kChild st).1 c).isSome = true ∧ (cs.take (j + 1)).foldl kChild st = kChild ((cs.take j).foldl kChild st) c := by
  obtain ⟨hlt, rfl⟩ := List.getElem?_eq_some_iff.mp hj
  have e : cs = cs.take j ++ cs[j] :: cs.drop (j + 1) := by rw [← List.drop_eq_getElem_cons hlt, List.take_append_drop]
  constructor
  · rw [e] at h
    exact (kFine_append h).2.1
  · rw [List.take_add_one, List.getElem?_eq_getElem hlt, Option.toList_some, List.foldl_append]; rfl
theorem kVal_some {ind : List (Int × Int)} {c : Int} (h : (kVal ind c).isSome = true) : ∃ p ∈ ind, p.1 = c := by
  unfold kVal at h
  rw [Option.isSome_map] at h
  obtain ⟨p, hp⟩ := Option.isSome_iff_exists.mp h
  exact ⟨p, List.mem_of_find?_eq_some hp, by simpa using List.find?_some hp⟩
theorem kDel_len {ind : List (Int × Int)} {c : Int} (h : (kVal ind c).isSome = true) : (kDel ind c).length + 1 ≤ ind.length := by
  obtain ⟨p, hp, e⟩ := kVal_some h
  unfold kDel
  have : (ind.filter fun p => decide (p.1 ≠ c)).length < ind.length := by
    rw [List.length_filter_lt_length_iff_exists]
    exact ⟨p, hp, by simp [e]⟩
  omega
theorem kChild_len (st) (c : Int) : (kChild st c).1.length + (kChild st c).2.length ≤ st.1.length + st.2.length := by
  unfold kChild
  cases q : kVal st.1 c with
  | none => exact Nat.le_refl _
  | some d =>
    dsimp only
    split
    · have := kDel_len (ind := st.1) (c := c) (by rw [q]; rfl)
      simp only [List.length_append, List.length_cons, List.length_nil]; omega
    · simp [kPut]
theorem kFold_len (cs : List Int) : ∀ st, (cs.foldl kChild st).1.length + (cs.foldl kChild st).2.length ≤ st.1.length + st.2.length := by
  induction cs with
  | nil => intro st; exact Nat.le_refl _
  | cons c r ih => intro st; exact Nat.le_trans (ih _) (kChild_len st c)
theorem kDel_kPut (ind : List (Int × Int)) (c d : Int) : kDel (kPut ind c d) c = kDel ind c := by
  induction ind with
  | nil => rfl
  | cons p r ih =>
    unfold kDel kPut at *
    by_cases e : p.1 = c
    · simpa [e] using ih
    · simpa [e] using ih
theorem kVal_kPut {ind : List (Int × Int)} {c d e : Int} (h : kVal ind c = some e) : kVal (kPut ind c d) c = some d := by
  induction ind with
  | nil => simp [kVal] at h
  | cons p r ih =>
    unfold kVal kPut at *
    by_cases q : p.1 = c
    · simp [q]
    · simpa [q] using ih (by simpa [q] using h)

section
variable {prog : Program} {w : World} {A : Around} {σ s : Shared} {G : Array GenState → Prop} {L L' : List Cell} {env : Env} {D : Addr} {ind : List (Int × Int)}

/-- what a cell says may be opened -/
theorem St.openE {α : Type} {p : α → Prop} {P : α → Pr} {F R : List Cell} {a : Addr} (h : St σ G (F ++ (a, fun o => ∃ x, p x ∧ P x o) :: R) s) : ∃ x, p x ∧ St σ G (F ++ (a, P x) :: R) s := by
  obtain ⟨o, ho, x, hx, hP⟩ := h.get (List.mem_append_right _ (.head _))
  refine ⟨x, hx, h.gens, h.drawn, h.os, h.keep, fun q hq => ?_, ?_, fun q hq => ?_⟩
  · rcases List.mem_append.mp hq with hq | hq
    · exact h.live q (List.mem_append_left _ hq)
    · rcases List.mem_cons.mp hq with rfl | hq
      · exact ⟨o, ho, hP⟩
      · exact h.live q (List.mem_append_right _ (.tail _ hq))
  · have := h.nd
    simp only [List.map_append, List.map_cons] at this ⊢
    exact this
  · rcases List.mem_append.mp hq with hq | hq
    · exact h.off q (List.mem_append_left _ hq)
    · rcases List.mem_cons.mp hq with rfl | hq
      · exact h.off (a, fun o => ∃ x, p x ∧ P x o) (List.mem_append_right _ (.head _))
      · exact h.off q (List.mem_append_right _ (.tail _ hq))
theorem dci_of {kvs : List (Int × Value)} (hv : DV ind kvs) {o : Obj} (ho : dct prog w kvs o) : dci prog w ind o := ⟨kvs, hv, ho⟩

theorem K_get {c d : Int} {t : Tok} {Q : Value → Shared → Prop} (h : St σ G L s) (hD : (D, dci prog w ind) ∈ L) (hv : kVal ind c = some d) (k : ∀ t s', St σ G L s' → Q (.int d t) s') : W prog w A (getItem (.ref D) (.int c t)) Q s := by
  obtain ⟨F, R, rfl⟩ := has_split hD
  obtain ⟨kvs, hkv, h'⟩ := St.openE (p := fun kvs => DV ind kvs) (P := dct prog w) h
  obtain ⟨u, hu⟩ := hkv.held hv
  exact D_getItem h' (List.mem_append_right _ (.head _)) hu (fun s' hs => k u s' (hs.shut fun o ho => dci_of hkv ho))
theorem K_item {value slice : Expr} {c d : Int} {t : Tok} {Q : Value → Shared → Prop} (h : St σ G L s) (hD : (D, dci prog w ind) ∈ L) (hv : kVal ind c = some d) (k : ∀ t s', St σ G L s' → Q (.int d t) s')
    (hs : subscripted slice false (.ref D) (.int c t) = operate [.ref D, .int c t] (getItem (.ref D) (.int c t)) := by with_unfolding_all rfl) : W prog w A (subscriptTail value slice (.ref D) (.int c t)) Q s := by
  obtain ⟨F, R, rfl⟩ := has_split hD
  obtain ⟨kvs, hkv, h'⟩ := St.openE (p := fun kvs => DV ind kvs) (P := dct prog w) h
  obtain ⟨u, hu⟩ := hkv.held hv
  exact D_item h' (List.mem_append_right _ (.head _)) hu (fun s' hs => k u s' (hs.shut fun o ho => dci_of hkv ho)) hs
theorem K_set {c d e : Int} {t u : Tok} {Q : Unit → Shared → Prop} (h : St σ G L s) (hp : Put D (dci prog w ind) (dci prog w (kPut ind c d)) L L') (hv : kVal ind c = some e) (hz : ind.length ≤ 1000) (k : ∀ s', St σ G L' s' → Q () s') : W prog w A (setItem (.ref D) (.int c t) (.int d u)) Q s := by
  obtain ⟨F, R, rfl, rfl⟩ := hp.split
  obtain ⟨kvs, hkv, h'⟩ := St.openE (p := fun kvs => DV ind kvs) (P := dct prog w) h
  exact D_setItem h' (put_mid F) (by rw [hkv.length]; exact hz) (fun s' hs => k s' (hs.shut fun o ho => dci_of (hkv.put hv d u) ho))
theorem K_del {c : Int} {t : Tok} {Q : Unit → Shared → Prop} (h : St σ G L s) (hp : Put D (dci prog w ind) (dci prog w (kDel ind c)) L L') (hv : (kVal ind c).isSome = true) (hz : ind.length ≤ 1000) (k : ∀ s', St σ G L' s' → Q () s') : W prog w A (delItem (.ref D) (.int c t)) Q s := by
  obtain ⟨F, R, rfl, rfl⟩ := hp.split
  obtain ⟨kvs, hkv, h'⟩ := St.openE (p := fun kvs => DV ind kvs) (P := dct prog w) h
  obtain ⟨e, he⟩ := Option.isSome_iff_exists.mp hv
  obtain ⟨u, hu⟩ := hkv.held he
  exact D_delItem h' (put_mid F) (by rw [hkv.length]; exact hz) (by rw [hu]; rfl) (fun s' hs => k s' (hs.shut fun o ho => dci_of (hkv.del c) ho))
theorem K_truthy {Q : Bool → Shared → Prop} (h : St σ G L s) (hD : (D, dci prog w ind) ∈ L) (hz : ind.length ≤ 1000) (k : ∀ s', St σ G L s' → Q (!ind.isEmpty) s') : W prog w A (truthy (.ref D)) Q s := by
  obtain ⟨F, R, rfl⟩ := has_split hD
  obtain ⟨kvs, hkv, h'⟩ := St.openE (p := fun kvs => DV ind kvs) (P := dct prog w) h
  refine D_truthy h' (List.mem_append_right _ (.head _)) (by rw [hkv.length]; exact hz) (fun s' hs => ?_)
  have e : kvs.isEmpty = ind.isEmpty := by cases hkv <;> rfl
  rw [e]
  exact k s' (hs.shut fun o ho => dci_of hkv ho)
end
end Mine

namespace Mine
open PySem PySem.W PySem.Calls PyProof.Rows

def whBody : Stmt → List Stmt
  | .While _ b .. => b
  | _ => []
def whTest : Stmt → Expr
  | .While t .. => t
  | _ => .Name "" default
def tgB : List Stmt := bodyOf (top 7)
def tgScope : Scope := scopeOf (top 7)
def tgWhile : Stmt := nthS tgB 4
def tgFor : Stmt := nthS (whBody tgWhile) 2
def ndl2 (vx Sd Pd Nd Gd : Addr) : List (Str × Value) := ("in_degree", .ref vx) :: ndl Sd Pd Nd Gd

/-- what the ledger holds of the net -/
structure NetAt (prog : Program) (w : World) (x nd vx Sd Pd Nd Gd : Addr) (skv nkv : List (Int × Value)) (suc : Int → List Int) (ns : List Int) (Net : List Cell) : Prop where
  x : (x, ins cDi nd) ∈ Net
  nd : (nd, sd prog w (ndl2 vx Sd Pd Nd Gd)) ∈ Net
  S : (Sd, dct prog w skv) ∈ Net
  N : (Nd, dct prog w nkv) ∈ Net
  has : ∀ n ∈ ns, (valueAt nkv n).isSome = true
  suc : ∀ n ∈ ns, ∃ Si ikv, valueAt skv n = some (.ref Si) ∧ (Si, dct prog w ikv) ∈ Net ∧ ikv.map (·.1) = suc n
theorem perm_net {α : Type} (a b1 b2 b3 c1 c2 : α) (F R : List α) : (a :: b1 :: b2 :: b3 :: c1 :: c2 :: (F ++ R)).Perm (c1 :: c2 :: b1 :: b2 :: b3 :: (F ++ a :: R)) := by
  have p1 : (a :: b1 :: b2 :: b3 :: c1 :: c2 :: (F ++ R)).Perm (b1 :: b2 :: b3 :: c1 :: c2 :: (F ++ a :: R)) := (List.perm_middle (l₁ := b1 :: b2 :: b3 :: c1 :: c2 :: F) (l₂ := R) (a := a)).symm
  exact p1.trans ((List.perm_append_comm (l₁ := [b1, b2, b3]) (l₂ := [c1, c2])).append_right (F ++ a :: R))
structure NG (K : Frag) : Prop where
  con : isFn K (.ref 589) = true
  vcall : isFn K (.ref 252) = true
  vcallF : fnIn K 252 = true
  viter : isFn K (.ref 327) = true
  fTG : FnK K 75 (top 7) .none

section
variable {prog : Program} {w : World} {A : Around} {σ s : Shared} {G : Array GenState → Prop} {L R : List Cell} {K : Frag} {mg : Str → Option Value} {env : Env}

theorem call_contains2 (B : Base σ mg) (X : K.In σ.heap) (N : NF K) (hd : A.depth ≤ 890) {x nd Nd : Addr} {l : List (Str × Value)} (hl : l.lookup (Str.ofString "_node") = some (.ref Nd)) {nkv : List (Int × Value)} {n : Int} {t : Tok} {Q : Value → Shared → Prop}
    (hx : (x, ins cDi nd) ∈ L) (hnd : (nd, sd prog w l) ∈ L) (hN : (Nd, dct prog w nkv) ∈ L) (h : St σ G L s)
    (k : ∀ s', St σ G L s' → Q (.bool (valueAt nkv n).isSome) s') : CallF prog w A σ 589 [.ref x, .int n t] Q s := by
  obtain ⟨nm, ql, kV, doc, pm, an, cdv, ct, F⟩ := N.fCon.fn X
  refine T_callP [("self", .ref x), ("n", .int n t)] F B.lim (by omega) h (fun Lf s h => ?_)
  refine T_cons (T_try (T_cons (T_ret (T_compare ?_))))
  refine t_name h (T_attr ?_)
  refine t_name h ?_
  refine T_getOwn X N.di N.gNode h (x := x) (dx := nd) (.tail _ hx) (.tail _ hnd) hl rfl (fun s h => ?_)
  refine D_in (d := Nd) h (.tail _ hN) (fun s h => ?_)
  exact k s (h.sub (List.sublist_cons_self _ _))
theorem call_neighbors2 (B : Base σ mg) (X : K.In σ.heap) (N : NF K) (g1 : mg "iter" = none) (hd : A.depth ≤ 890) {x nd Sd Si : Addr} {l : List (Str × Value)} (hl : l.lookup (Str.ofString "_succ") = some (.ref Sd)) {skv ikv : List (Int × Value)} {n : Int} {t : Tok} {Q : Value → Shared → Prop} (hv : valueAt skv n = some (.ref Si)) {F R : List Cell}
    (hx : (x, ins cDi nd) ∈ F ++ (Si, dct prog w ikv) :: R) (hnd : (nd, sd prog w l) ∈ F ++ (Si, dct prog w ikv) :: R) (hS : (Sd, dct prog w skv) ∈ F ++ (Si, dct prog w ikv) :: R)
    (h : St σ G (F ++ (Si, dct prog w ikv) :: R) s)
    (k : ∀ it ep s', St σ G ((it, kit Si 0 ikv.length ep) :: (F ++ (Si, dcE prog w ikv ep) :: R)) s' → Q (.ref it) s') : CallF prog w A σ 855 [.ref x, .int n t] Q s := by
  obtain ⟨nm, ql, kV, doc, pm, an, cdv, ct, Fa⟩ := N.fNei.fn X
  refine T_callP [("self", .ref x), ("n", .int n t)] Fa B.lim (by omega) h (fun Lf s h => ?_)
  refine T_cons (T_try (T_cons (T_ret (T_call (T_builtin B h g1 (v := .builtin "iter") (by decide +kernel) ?_)))))
  refine T_with1 (T_args (T_sub (T_attr ?_)))
  refine t_name h ?_
  refine T_getOwn X N.di N.gSucc h (x := x) (dx := nd) (.tail _ hx) (.tail _ hnd) hl rfl (fun s h => ?_)
  refine t_name h ?_
  refine D_item (d := Sd) h (.tail _ hS) hv (fun s h => T_args0 ?_)
  refine D_iterCall (F := _ :: F) h (fun it ep s h => ?_)
  exact k it ep s (h.sub ((List.sublist_cons_self _ _).cons_cons _))
theorem T_iterKit {it d : Addr} {i n ep : Nat} {Q : Value → Shared → Prop} (h : St σ G L s) (hi : (it, kit d i n ep) ∈ L) (k : Q (.ref it) s) : W prog w A (pyIter (.ref it)) Q s := by
  obtain ⟨o, ho, r⟩ := h.get hi
  exact wpAny_pyIter_keyiter ⟨o, ho, r⟩ k

/-- one child -/
theorem tg_child {q : Str} {fa : Option Addr} {cd : Value} {fm : Option Addr} {Lf Dm zl : Addr} {fl : List (Str × Value)} {c : Int} {tc : Tok} {st : List (Int × Int) × List Int} {Q : Flow → Shared → Prop}
    (hz : st.1.length + st.2.length ≤ 900) (hv : (kVal st.1 c).isSome = true)
    (f1 : (Str.ofString "indegree_map", .ref Dm) ∈ fl) (f2 : (Str.ofString "multigraph", .bool false) ∈ fl) (f3 : (Str.ofString "zero_indegree", .ref zl) ∈ fl) (f4 : (Str.ofString "child", .int c tc) ∈ fl)
    (h : St σ G ((Lf, fr fl) :: (Dm, dci prog w st.1) :: (zl, ils st.2) :: R) s)
    (k : ∀ s', St σ G ((Lf, fr fl) :: (Dm, dci prog w (kChild st c).1) :: (zl, ils (kChild st c).2) :: R) s' → Q .next s') :
    W prog w A (execs (forBody (nthS (forBody tgFor) 1)) (envM tgScope [] q fa cd fm Lf)) Q s := by
  obtain ⟨ind, zero⟩ := st
  dsimp only at hz hv h
  obtain ⟨d, hd⟩ := Option.isSome_iff_exists.mp hv
  have e : kChild (ind, zero) c = if d - 1 = 0 then (kDel ind c, zero ++ [c]) else (kPut ind c (d - 1), zero) := by
    unfold kChild; dsimp only; rw [hd]
  refine T_cons (T_try (T_cons (T_augSub ?_)))
  refine T_name h (.head _) f1 ?_
  refine T_name h (.head _) f4 ?_
  refine K_get h (.tail _ (.head _)) hd (fun t s h => ?_)
  refine T_ifExp (T_isName ?_)
  refine T_name h (.head _) f2 (T_truthyBool ?_)
  refine ite_no rfl ?_
  refine T_int h (fun t2 s h => ?_)
  refine T_isubInt h (fun t3 s h => ?_)
  refine K_set h (.there .here) hd (by omega) (fun s h => T_nil ?_)
  have hv2 : kVal (kPut ind c (d - 1)) c = some (d - 1) := kVal_kPut hd
  have hl2 : (kPut ind c (d - 1)).length = ind.length := by simp [kPut]
  refine T_cons (T_if (T_isCompare (T_sub ?_)))
  refine T_name h (.head _) f1 ?_
  refine T_name h (.head _) f4 ?_
  refine K_item h (.tail _ (.head _)) hv2 (fun t s h => ?_)
  refine T_int h (fun t4 s h => T_eqInt (T_truthyBool ?_))
  by_cases hq : d - 1 = 0
  · refine ite_yes (by rw [hq]; rfl) ?_
    rw [if_pos hq] at e
    refine T_cons (T_expr (T_method ?_))
    refine T_name h (.head _) f3 ?_
    refine i_getAppend h ?_
    refine T_with1 (T_args ?_)
    refine T_name h (.head _) f4 (T_args0 ?_)
    refine i_append h (fun s h => ?_)
    refine T_cons (T_del1 ?_)
    refine T_name h (.head _) f1 ?_
    refine T_name h (.head _) f4 ?_
    refine K_del h (.there .here) (by rw [hv2]; rfl) (by omega) (fun s h => T_nil (T_nil ?_))
    rw [kDel_kPut] at h
    exact k s (by rw [e]; exact h)
  · refine ite_no (beq_eq_false_iff_ne.mpr hq) ?_
    rw [if_neg hq] at e
    exact T_nil (T_nil (k s (by rw [e]; exact h)))

/-- a generation's nodes -/
theorem tg_nodes (B : Base σ mg) (X : K.In σ.heap) (N : NF K) (NGf : NG K) (hA : A.handled = none) (hd : A.depth ≤ 880) (g1 : mg "iter" = none) {q : Str} {fa : Option Addr} {cd : Value} {fm : Option Addr} {Lf x nd vx Sd Pd Nd Gd Dm zl gl : Addr} {skv nkv : List (Int × Value)} {suc : Int → List Int} {ns : List Int} {Net : List Cell}
    (T : NetAt prog w x nd vx Sd Pd Nd Gd skv nkv suc ns Net) {ind : List (Int × Int)} {gen : List Int} (hg : ∀ n ∈ gen, n ∈ ns) (hf : kFine (ind, []) (gen.flatMap suc)) (hz : ind.length ≤ 900) {Q : Flow → Shared → Prop}
    (h : St σ G ((gl, ils gen) :: (Lf, fr [("zero_indegree", .ref zl), ("this_generation", .ref gl), ("indegree_map", .ref Dm), ("multigraph", .bool false), ("G", .ref x)]) :: (Dm, dci prog w ind) :: (zl, ils []) :: Net) s)
    (k : ∀ s', St σ G ((gl, ils gen) :: (Lf, fr [("zero_indegree", .ref zl), ("this_generation", .ref gl), ("indegree_map", .ref Dm), ("multigraph", .bool false), ("G", .ref x)]) :: (Dm, dci prog w ((gen.flatMap suc).foldl kChild (ind, [])).1) :: (zl, ils ((gen.flatMap suc).foldl kChild (ind, [])).2) :: Net) s' → Q .next s') :
    W prog w A (exec tgFor (envM tgScope [] q fa cd fm Lf)) Q s := by
  refine T_for ?_
  refine t_name h ?_
  refine i_iter h (fun it s h => ?_)
  refine T_loop (Src.ints (σ := σ) (G := G) (A := A) hA it gl gen _ _) (fun i L' => L' = (Lf, fr [("zero_indegree", .ref zl), ("this_generation", .ref gl), ("indegree_map", .ref Dm), ("multigraph", .bool false), ("G", .ref x)]) ::
      (Dm, dci prog w (((gen.take i).flatMap suc).foldl kChild (ind, [])).1) :: (zl, ils (((gen.take i).flatMap suc).foldl kChild (ind, [])).2) :: Net) h rfl ?_ ?_
  · rintro i v W L' s hi ⟨n, t, hni, rfl, rfl⟩ rfl h
    have hn : n ∈ ns := hg n (List.mem_of_getElem? hni)
    have et : (gen.take (i + 1)).flatMap suc = (gen.take i).flatMap suc ++ suc n := by rw [List.take_add_one, hni]; simp
    have ew : gen.flatMap suc = (gen.take i).flatMap suc ++ (suc n ++ (gen.drop (i + 1)).flatMap suc) := by
      obtain ⟨hlt, rfl⟩ := List.getElem?_eq_some_iff.mp hni
      have e1 : gen.flatMap suc = (gen.take i ++ gen.drop i).flatMap suc := by rw [List.take_append_drop]
      rw [e1, List.drop_eq_getElem_cons hlt, List.flatMap_append, List.flatMap_cons]
    have hfn : kFine (((gen.take i).flatMap suc).foldl kChild (ind, [])) (suc n) := by
      rw [ew] at hf
      exact (kFine_append (kFine_append hf).2).1
    have hlen := kFold_len ((gen.take i).flatMap suc) (ind, [])
    obtain ⟨Si, ikv, hv, hSi, hik⟩ := T.suc n hn
    generalize hst : ((gen.take i).flatMap suc).foldl kChild (ind, []) = st at h hfn hlen
    simp only [List.length_nil, Nat.add_zero] at hlen
    refine T_assignN ?_
    refine t_store h (fun s h => ?_)
    refine T_cons (T_if (T_isCompare ?_))
    refine t_name h ?_
    refine t_name h ?_
    refine N_notIn X N.mCon NGf.con h (x := x) (dx := nd) (List.mem_append_right [_, _, _, _, _] T.x) (List.mem_append_right [_, _, _, _, _] T.nd) ?_
    refine call_contains2 B X N (by omega) (Nd := Nd) rfl (List.mem_append_right [_, _, _, _, _] T.x) (List.mem_append_right [_, _, _, _, _] T.nd) (List.mem_append_right [_, _, _, _, _] T.N) h (fun s h => T_truthyBool (T_truthyBool ?_))
    refine ite_no (by rw [T.has n hn]; rfl) (T_nil ?_)
    refine T_cons (T_for (T_method ?_))
    refine t_name h ?_
    refine T_getMethodFn X N.di N.mNei N.fNei.isFn h (x := x) (dx := nd) (List.mem_append_right [_, _, _, _, _] T.x) (List.mem_append_right [_, _, _, _, _] T.nd) rfl ?_
    obtain ⟨nm, ql, kV, doc, pm, an, cdv, ct, Fa⟩ := N.fNei.fn X
    refine T_withF Fa (T_args ?_)
    refine t_name h (T_args0 ?_)
    obtain ⟨F, R, hNet⟩ := has_split hSi
    have hx' := T.x
    have hnd' := T.nd
    have hS' := T.S
    rw [hNet] at h hx' hnd' hS'
    refine call_neighbors2 B X N g1 (by omega) (x := x) (nd := nd) (Sd := Sd) (F := [_, _, _, _, _] ++ F) rfl hv (by rw [List.append_assoc]; exact List.mem_append_right [_, _, _, _, _] hx') (by rw [List.append_assoc]; exact List.mem_append_right [_, _, _, _, _] hnd') (by rw [List.append_assoc]; exact List.mem_append_right [_, _, _, _, _] hS') h (fun it2 ep s h => ?_)
    refine T_iterKit h (.head _) ?_
    have h := h.perm (L' := [(it2, kit Si 0 ikv.length ep), (Si, dcE prog w ikv ep)] ++ ((Lf, fr (("node", .int n t) :: [("zero_indegree", .ref zl), ("this_generation", .ref gl), ("indegree_map", .ref Dm), ("multigraph", .bool false), ("G", .ref x)])) :: (Dm, dci prog w st.1) :: (zl, ils st.2) :: ((it, lit gl (i + 1)) :: (gl, ils gen) :: (F ++ R)))) (by
      refine List.Perm.cons _ (List.perm_middle.trans (List.Perm.cons _ ?_))
      simp only [List.append_assoc]
      exact (List.perm_append_comm (l₁ := [_, _]) (l₂ := [_, _, _])).append_right (F ++ R))
    refine T_loop (Src.dict (σ := σ) (G := G) (A := A) hA it2 Si ikv ep _ _) (fun j L' => L' = (Lf, fr (("node", .int n t) :: [("zero_indegree", .ref zl), ("this_generation", .ref gl), ("indegree_map", .ref Dm), ("multigraph", .bool false), ("G", .ref x)])) ::
      (Dm, dci prog w (((suc n).take j).foldl kChild st).1) :: (zl, ils (((suc n).take j).foldl kChild st).2) :: ((it, lit gl (i + 1)) :: (gl, ils gen) :: (F ++ R))) h rfl ?_ ?_
    · rintro j v W L' s hj ⟨c, tc, hc, rfl, rfl⟩ rfl h
      rw [hik] at hc
      obtain ⟨hcv, hcs⟩ := kFine_at hfn hc
      have hl2 := kFold_len ((suc n).take j) st
      refine T_assignN ?_
      refine t_store h (fun s h => ?_)
      have h := h.pick (E := [_, _, _, _, _]) (R := (it, lit gl (i + 1)) :: (gl, ils gen) :: (F ++ R)) [2, 3, 4, 0, 1]
      refine tg_child (st := ((suc n).take j).foldl kChild st) (c := c) (tc := tc) (by omega) hcv (by simp) (by simp) (by simp) (by simp) h (fun s h => ?_)
      rw [← hcs] at h
      have h := (h.pick (E := [_, _, _, _, _]) (R := (it, lit gl (i + 1)) :: (gl, ils gen) :: (F ++ R)) [3, 4, 0, 1, 2]).frame [_, _] (("node", .int n t) :: [("zero_indegree", .ref zl), ("this_generation", .ref gl), ("indegree_map", .ref Dm), ("multigraph", .bool false), ("G", .ref x)])
      exact ⟨_, rfl, h⟩
    · rintro L' s rfl h
      have hl : ikv.length = (suc n).length := by rw [← hik, List.length_map]
      rw [hl, List.take_length] at h
      refine T_nil ⟨_, rfl, ?_⟩
      rw [et, List.foldl_append, hst, hNet]
      have h := h.frame [_] [("zero_indegree", .ref zl), ("this_generation", .ref gl), ("indegree_map", .ref Dm), ("multigraph", .bool false), ("G", .ref x)]
      refine h.perm ?_
      exact perm_net _ _ _ _ _ _ F R
  · rintro L' s rfl h
    rw [List.take_length] at h
    exact k s h
end
end Mine

namespace Mine
open PySem PySem.W PySem.Calls PyProof.Rows

/-- a run of Kahn's rounds -/
structure KRun (suc : Int → List Int) (ns : List Int) (gs : Nat → List (Int × Int) × List Int) (N : Nat) : Prop where
  next : ∀ i, i < N → gs (i + 1) = ((gs i).2.flatMap suc).foldl kChild ((gs i).1, [])
  fine : ∀ i, i < N → kFine ((gs i).1, []) ((gs i).2.flatMap suc)
  some : ∀ i, i < N → (gs i).2 ≠ []
  sub : ∀ i, i < N → ∀ n ∈ (gs i).2, n ∈ ns
  last : gs N = ([], [])
  len : (gs 0).1.length + (gs 0).2.length ≤ 900
theorem KRun.lens {suc : Int → List Int} {ns : List Int} {gs : Nat → List (Int × Int) × List Int} {N : Nat} (h : KRun suc ns gs N) : ∀ i, i ≤ N → (gs i).1.length + (gs i).2.length ≤ 900
  | 0, _ => h.len
  | i + 1, hi => by
    have ih := h.lens i (by omega)
    rw [h.next i (by omega)]
    have := kFold_len ((gs i).2.flatMap suc) ((gs i).1, [])
    simp only [List.length_nil, Nat.add_zero] at this
    omega

def tgFr (x Dm zl : Addr) : List (Str × Value) := [("zero_indegree", .ref zl), ("indegree_map", .ref Dm), ("multigraph", .bool false), ("G", .ref x)]
def tgX (prog : Program) (w : World) (Lf x Dm zl : Addr) (st : List (Int × Int) × List Int) (Net : List Cell) : List Cell := (Lf, fr (tgFr x Dm zl)) :: (Dm, dci prog w st.1) :: (zl, ils st.2) :: Net
def tgV (gs : Nat → List (Int × Int) × List Int) (i : Nat) (v : Value) (W : List Cell) : Prop := ∃ gl, v = .ref gl ∧ W = [(gl, ils (gs i).2)]
/-- what the sleeping generator holds -/
def tgI (prog : Program) (w : World) (Lf x nd Sd Pd Nd Gd : Addr) (skv nkv : List (Int × Value)) (suc : Int → List Int) (ns : List Int) (gs : Nat → List (Int × Int) × List Int) (i : Nat) (X : List Cell) : Prop :=
  ∃ vx Dm zl Net, NetAt prog w x nd vx Sd Pd Nd Gd skv nkv suc ns Net ∧ X = tgX prog w Lf x Dm zl (gs i) Net

section
variable {prog : Program} {w : World} {A : Around} {σ s : Shared} {G Gr : Array GenState → Prop} {L R : List Cell} {K : Frag} {mg : Str → Option Value} {env : Env}

theorem tg_turns (B : Base σ mg) (X : K.In σ.heap) (N : NF K) (NGf : NG K) (hA : A.handled = none) (hd : A.depth ≤ 870) (g1 : mg "iter" = none) {q : Str} {fa : Option Addr} {cd : Value} {fm : Option Addr} {Lf x nd vx Sd Pd Nd Gd Dm : Addr} {skv nkv : List (Int × Value)} {suc : Int → List Int} {ns : List Int} {Net : List Cell}
    (T : NetAt prog w x nd vx Sd Pd Nd Gd skv nkv suc ns Net) {gs : Nat → List (Int × Int) × List Int} {M : Nat} (KR : KRun suc ns gs M) {D : List Cell → Prop}
    {body : List Stmt} {kk : Flow → Sem Fin} {HH : Value → Sem Fin} {p0 : Pos} (hc : ∀ zl L s, St σ Gr (tgX prog w Lf x Dm zl ([], []) Net ++ L) s → SegZ (model prog w) A (Zp prog w A σ Gr M D (tgI prog w Lf x nd Sd Pd Nd Gd skv nkv suc ns gs) (tgV gs) 0 L) (.func body (envM tgScope [] q fa cd fm Lf)) (kk .next) [] s) :
    ∀ m i zl L s, i + m = M → St σ Gr (tgX prog w Lf x Dm zl (gs i) Net ++ L) s →
      SegZ (model prog w) A (Zp prog w A σ Gr M D (tgI prog w Lf x nd Sd Pd Nd Gd skv nkv suc ns gs) (tgV gs) m L)
        (.whileLoop (whTest tgWhile) (whBody tgWhile) [] (envM tgScope [] q fa cd fm Lf)) ((model prog w).den (.whileLoop (whTest tgWhile) (whBody tgWhile) [] (envM tgScope [] q fa cd fm Lf)))
        [.ret (ownBack (envM tgScope [] q fa cd fm Lf) kk HH id id) none (id false) (id []) (.func body (envM tgScope [] q fa cd fm Lf)) p0 []] s := by
  intro m
  induction m with
  | zero =>
    intro i zl L s hi h
    obtain rfl : i = M := by omega
    rw [KR.last] at h
    refine z_whileTurn (T_isName ?_)
    refine t_name h ?_
    refine i_truthy h (fun s h => ?_)
    refine ite_no rfl ?_
    exact z_back (hc zl L s h)
  | succ m ih =>
    intro i zl L s hi h
    have hlen := KR.lens i (by omega)
    have hne := KR.some i (by omega)
    have hdd : (A.over (.whileLoop (whTest tgWhile) (whBody tgWhile) [] (envM tgScope [] q fa cd fm Lf)) [.ret (ownBack (envM tgScope [] q fa cd fm Lf) kk HH id id) none (id false) (id []) (.func body (envM tgScope [] q fa cd fm Lf)) p0 []]).depth ≤ 880 := by
      have e : (A.over (.whileLoop (whTest tgWhile) (whBody tgWhile) [] (envM tgScope [] q fa cd fm Lf)) [.ret (ownBack (envM tgScope [] q fa cd fm Lf) kk HH id id) none (id false) (id []) (.func body (envM tgScope [] q fa cd fm Lf)) p0 []]).depth = A.depth + 1 := rfl
      rw [e]; omega
    refine z_whileTurn (T_isName ?_)
    refine t_name h ?_
    refine i_truthy h (fun s h => ?_)
    refine ite_yes (by cases hq : (gs i).2 with | nil => exact absurd hq hne | cons _ _ => rfl) ?_
    refine z_st (T_assignName ?_)
    refine t_name h ?_
    refine t_store h (fun s h => ?_)
    refine z_st (T_assignName (T_list (T_args0 (I_newList h .nil (fun zl2 s h => ?_)))))
    refine t_store h (fun s h => ?_)
    have h := (h.pick (E := [_, _, _, _]) (R := Net ++ L) [3, 1, 2, 0])
    have hN := KR.next i (by omega)
    refine z_st (tg_nodes (A := A.over (.whileLoop (whTest tgWhile) (whBody tgWhile) [] (envM tgScope [] q fa cd fm Lf)) [.ret (ownBack (envM tgScope [] q fa cd fm Lf) kk HH id id) none (id false) (id []) (.func body (envM tgScope [] q fa cd fm Lf)) p0 []]) B X N NGf (by exact hA) hdd g1 (T := (⟨List.mem_append_left _ T.x, List.mem_append_left _ T.nd, List.mem_append_left _ T.S, List.mem_append_left _ T.N, T.has, fun n hn => let ⟨Si, ikv, a, b, c⟩ := T.suc n hn; ⟨Si, ikv, a, List.mem_append_left _ b, c⟩⟩ : NetAt prog w x nd vx Sd Pd Nd Gd skv nkv suc ns (Net ++ L))) (KR.sub i (by omega)) (KR.fine i (by omega)) (by omega) h (fun s h => ?_))
    rw [← hN] at h
    refine z_yieldStmt rfl rfl rfl ?_
    refine t_name h ?_
    intro e' hq' he hres
    obtain ⟨g', l', k', c', p', fs', rfl⟩ := he
    have h := (h.perm (L' := ((Lf, fr [("zero_indegree", .ref zl2), ("this_generation", .ref zl), ("indegree_map", .ref Dm), ("multigraph", .bool false), ("G", .ref x)]) :: (Dm, dci prog w (gs (i + 1)).1) :: (zl2, ils (gs (i + 1)).2) :: Net) ++ ([(zl, ils (gs i).2)] ++ L)) (by
      simp only [List.cons_append, List.nil_append]
      exact (List.perm_middle (a := (zl, ils (gs i).2)) (l₁ := (Lf, fr [("zero_indegree", .ref zl2), ("this_generation", .ref zl), ("indegree_map", .ref Dm), ("multigraph", .bool false), ("G", .ref x)]) :: (Dm, dci prog w (gs (i + 1)).1) :: (zl2, ils (gs (i + 1)).2) :: Net) (l₂ := L)).symm))
    have h := h.frame [] (tgFr x Dm zl2) (hl := by simp [tgFr])
    refine ⟨.ref zl, g', l', k', c', p', fs', [(zl, ils (gs i).2)], tgX prog w Lf x Dm zl2 (gs (i + 1)) Net, rfl, hq', ?_, ?_, h, GoodZ_of (fun s L2 h2 => hres _ _ s (z_nil (z_again rfl (ih (i + 1) zl2 L2 s (by omega) h2))))⟩
    · rw [show M - (m + 1) = i by omega]
      exact ⟨zl, rfl, rfl⟩
    · rw [show M - m = i + 1 by omega]
      exact ⟨vx, Dm, zl2, Net, T, rfl⟩
end
end Mine

namespace Mine
open PySem PySem.W PySem.Calls PyProof.Rows

/-- nodes and their counts -/
def degs (ns : List Int) (pr : List (List (Int × Value))) : List (Int × Int) := List.zipWith (fun n r => (n, (r.length : Int))) ns pr
def ind0 (l : List (Int × Int)) : List (Int × Int) := l.filter fun p => decide (0 < p.2)
def zero0 (l : List (Int × Int)) : List Int := (l.filter fun p => p.2 == 0).map (·.1)
theorem degs_at {ns : List Int} {pr : List (List (Int × Value))} {i : Nat} {n : Int} {r : List (Int × Value)} (hn : ns[i]? = some n) (hr : pr[i]? = some r) : (degs ns pr)[i]? = some (n, (r.length : Int)) := by
  simp [degs, List.getElem?_zipWith, hn, hr]
theorem degs_len {ns : List Int} {pr : List (List (Int × Value))} (h : pr.length = ns.length) : (degs ns pr).length = ns.length := by simp [degs, h]
theorem degs_keys {ns : List Int} {pr : List (List (Int × Value))} (h : pr.length = ns.length) : (degs ns pr).map (·.1) = ns := by
  induction ns generalizing pr with
  | nil => simp [degs]
  | cons n ns ih => cases pr with
    | nil => simp at h
    | cons r pr =>
      have := ih (pr := pr) (by simpa using h)
      simp only [degs, List.zipWith_cons_cons, List.map_cons] at this ⊢
      rw [this]
theorem DV.keyNew {a : List (Int × Int)} {b : List (Int × Value)} (h : DV a b) {c : Int} (hn : c ∉ a.map (·.1)) : c ∉ b.map (·.1) := by rw [h.keys]; exact hn
theorem keys_take {l : List (Int × Int)} (hn : (l.map (·.1)).Nodup) {i : Nat} {p : Int × Int} (hi : l[i]? = some p) : p.1 ∉ ((l.take i).filter fun p => decide (0 < p.2)).map (·.1) := by
  intro hm
  obtain ⟨q, hq, e⟩ := List.mem_map.mp hm
  have hq := (List.mem_filter.mp hq).1
  obtain ⟨j, hj, rfl⟩ := List.getElem_of_mem hq
  obtain ⟨h1, rfl⟩ := List.getElem?_eq_some_iff.mp hi
  rw [List.length_take] at hj
  rw [List.getElem_take] at e
  have h2 : (l.map (·.1))[j]'(by rw [List.length_map]; omega) = (l.map (·.1))[i]'(by rw [List.length_map]; omega) := by simpa using e
  have := (List.getElem_inj hn).mp h2
  omega

section
variable {prog : Program} {w : World} {A : Around} {σ s : Shared} {G Gr : Array GenState → Prop} {L L' R : List Cell} {K : Frag} {mg : Str → Option Value} {env : Env}

theorem K_dictNew {D : Addr} {ind : List (Int × Int)} {c d : Int} {t u : Tok} {Q : Unit → Shared → Prop} (h : St σ G L s) (hp : Put D (dci prog w ind) (dci prog w (ind ++ [(c, d)])) L L') (hn : c ∉ ind.map (·.1)) (hz : ind.length ≤ 1000) (k : ∀ s', St σ G L' s' → Q () s') : W prog w A (dictSet D (.int c t) (.int d u)) Q s := by
  obtain ⟨F, R, rfl, rfl⟩ := hp.split
  obtain ⟨kvs, hkv, h'⟩ := St.openE (p := fun kvs => DV ind kvs) (P := dct prog w) h
  refine D_dictSet h' (put_mid F) (by rw [hkv.length]; exact hz) (fun s' hs => k s' (hs.shut fun o ho => ?_))
  rw [stored_new (hkv.keyNew hn)] at ho
  exact dci_of (hkv.snoc c d u) ho
theorem T_iterGen {a : Addr} {g : Nat} {Q : Value → Shared → Prop} (h : St σ G L s) (ha : (a, gob g) ∈ L) (k : Q (.ref a) s) : W prog w A (pyIter (.ref a)) Q s := by
  obtain ⟨o, ho, nm, qn, e1, e2, e3⟩ := h.get ha
  exact wpAny_pyIter_gen ⟨o, nm, qn, ho, e1, e2, e3⟩ k
theorem dci_nil {o : Obj} (h : dct prog w [] o) : dci prog w [] o := ⟨[], .nil, h⟩
end
end Mine

namespace Mine
open PySem PySem.W PySem.Calls PyProof.Rows

theorem intsAre_lastAt {vs : List Value} {ns : List Int} (h : IntsAre vs ns) (hne : ns ≠ []) : ∃ t, vs.toArray[((-1 : Int) + (vs.toArray.size : Int)).toNat]? = some (.int (ns.getLastD 0) t) := by
  have hl := h.length
  have hp : 0 < ns.length := List.length_pos_iff.mpr hne
  have e : ns[ns.length - 1]? = some (ns.getLastD 0) := by
    rw [← List.getLast?_eq_getElem?]
    cases ns with
    | nil => exact absurd rfl hne
    | cons a r => simp [List.getLast?_cons]
  obtain ⟨u, hu⟩ := h.get _ _ e
  refine ⟨u, ?_⟩
  have e2 : ((-1 : Int) + (vs.toArray.size : Int)).toNat = ns.length - 1 := by
    rw [List.size_toArray, hl]; omega
  rw [e2, List.getElem?_toArray]
  exact hu

/-- the parts of a zip of two lists -/
def zipO (TI TO : Addr) : Pr := fun o => o = { cls := .type "zip", dict := none, data := .fields #[.none, .bool false, .bool false, .ref TI, .ref TO], slots := #[] }
def pairO (a b : Value) : Pr := fun o => o = { cls := .type "tuple", data := .seq #[a, b] }
def pairAny : Pr := fun o => ∃ a b, pairO a b o

section
variable {prog : Program} {w : World} {A : Around} {σ s : Shared} {G : Array GenState → Prop} {L L' : List Cell} {env : Env} {K : Frag}

theorem T_neg {x : Expr} {pos : Pos} {Q : Value → Shared → Prop} (k : W prog w A (eval x env) (fun v s₁ => W prog w A (unaryOp .USub v) Q s₁) s) : W prog w A (eval (.UnaryOp .USub x pos) env) Q s := wpAny_UnaryOp k
theorem T_negInt {a : Int} {t : Tok} {Q : Value → Shared → Prop} (h : St σ G L s) (k : ∀ t s', St σ G L s' → Q (.int (-a) t) s') : W prog w A (unaryOp .USub (.int a t)) Q s := PyProof.Rows.neg_int (k _ _ (h.toks _))
theorem I_last {value slice : Expr} {l : Addr} {ns : List Int} {t : Tok} {Q : Value → Shared → Prop} (h : St σ G L s) (hl : (l, ils ns) ∈ L) (hne : ns ≠ []) (k : ∀ t, Q (.int (ns.getLastD 0) t) s)
    (hs : subscripted slice false (.ref l) (.int (-1) t) = operate [.ref l, .int (-1) t] (getItem (.ref l) (.int (-1) t)) := by with_unfolding_all rfl) :
    W prog w A (subscriptTail value slice (.ref l) (.int (-1) t)) Q s := by
  obtain ⟨vs, n, hv, h1⟩ := h.ilist hl
  obtain ⟨u, hu⟩ := intsAre_lastAt hv hne
  have hp : 0 < ns.length := List.length_pos_iff.mpr hne
  have hlen := hv.length
  exact tail_any h1.isList.typeIs slot_list_getitem.lookup (wpAny_getItem_list_neg h1.isList (by decide) (by rw [List.size_toArray, hlen]; omega) (by decide) hu (k u)) hs
theorem T_withK0 {pos : Pos} {f : Value} {first : List Value} {Q : Value → Shared → Prop} (X : K.In s.heap) (hk : keepIn K f = true) (k : W prog w A (call f (first ++ [])) Q s) : W prog w A (callWith pos f first (backTo pos (starEach [] env)) []) Q s := callWith_K0 X hk k

theorem I_zip {l1 l2 : Addr} {ns ms : List Int} {Q : Value → Shared → Prop} (h : St σ G L s) (h1 : (l1, ils ns) ∈ L) (h2 : (l2, ils ms) ∈ L)
    (k : ∀ z TI TO i1 i2 s', St σ G ((z, zipO TI TO) :: (TI, pairO (.ref i1) (.ref i2)) :: (TO, pairAny) :: (i1, lit l1 0) :: (i2, lit l2 0) :: L) s' → Q (.ref z) s') : W prog w A (call (.type "zip") [.ref l1, .ref l2]) Q s := by
  obtain ⟨vs, n, hv, q1⟩ := h.ilist h1
  obtain ⟨ws, m, hw, q2⟩ := h.ilist h2
  refine call_zip_2 q1.isList q2.isList (fun h' a1 a2 a3 a4 a5 _ hk => k (s.heap.objs.size + 4) (s.heap.objs.size + 2) (s.heap.objs.size + 3) s.heap.objs.size (s.heap.objs.size + 1) _ ?_)
  refine h.growAll (W := [(s.heap.objs.size + 4, zipO (s.heap.objs.size + 2) (s.heap.objs.size + 3)), (s.heap.objs.size + 2, pairO (.ref s.heap.objs.size) (.ref (s.heap.objs.size + 1))), (s.heap.objs.size + 3, pairAny), (s.heap.objs.size, lit l1 0), (s.heap.objs.size + 1, lit l2 0)]) (t := s.toks) hk (fun p hp => ?_) ?_
  · simp only [List.mem_cons, List.not_mem_nil, or_false] at hp
    rcases hp with rfl | rfl | rfl | rfl | rfl
    · exact ⟨by dsimp only; omega, _, a1, rfl⟩
    · exact ⟨by dsimp only; omega, _, a2, rfl⟩
    · exact ⟨by dsimp only; omega, _, a3, _, _, rfl⟩
    · obtain ⟨o, ho, e⟩ := a4; exact ⟨Nat.le_refl _, o, ho, e⟩
    · obtain ⟨o, ho, e⟩ := a5; exact ⟨by dsimp only; omega, o, ho, e⟩
  · simp
theorem T_iterZip {z TI TO : Addr} {Q : Value → Shared → Prop} (h : St σ G L s) (hz : (z, zipO TI TO) ∈ L) (k : Q (.ref z) s) : W prog w A (pyIter (.ref z)) Q s := by
  obtain ⟨o, ho, rfl⟩ := h.get hz
  exact wpAny_pyIter_zip (f0 := .none) ho k

def zipI (z TI TO i1 i2 l1 l2 : Addr) (ns ms : List Int) (i : Nat) : List Cell := [(z, zipO TI TO), (TI, pairO (.ref i1) (.ref i2)), (TO, pairAny), (i1, lit l1 i), (i2, lit l2 i), (l1, ils ns), (l2, ils ms)]
theorem St.apart (h : St σ G L s) {i j : Nat} {p q : Cell} (hi : L[i]? = some p) (hj : L[j]? = some q) (hij : i ≠ j) : p.1 ≠ q.1 := by
  intro e
  obtain ⟨a1, rfl⟩ := List.getElem?_eq_some_iff.mp hi
  obtain ⟨b1, rfl⟩ := List.getElem?_eq_some_iff.mp hj
  have := (List.getElem_inj (h₀ := by rw [List.length_map]; exact a1) (h₁ := by rw [List.length_map]; exact b1) h.nd).mp (by simpa using e)
  exact hij this
theorem zip_apart {z TI TO i1 i2 l1 l2 : Addr} {ns ms : List Int} {i : Nat} (h : St σ G (zipI z TI TO i1 i2 l1 l2 ns ms i ++ L) s) : ZipApart z TI TO i1 i2 l1 l2 := by
  have ap : ∀ (i j : Nat) (p q : Cell), (zipI z TI TO i1 i2 l1 l2 ns ms _ ++ L)[i]? = some p → (zipI z TI TO i1 i2 l1 l2 ns ms _ ++ L)[j]? = some q → i ≠ j → p.1 ≠ q.1 := fun i j p q a b c => h.apart a b c
  exact ⟨ap 1 0 _ _ rfl rfl (by decide), ap 2 0 _ _ rfl rfl (by decide), ap 3 0 _ _ rfl rfl (by decide), ap 4 0 _ _ rfl rfl (by decide), ap 1 2 _ _ rfl rfl (by decide), ap 1 3 _ _ rfl rfl (by decide), ap 1 4 _ _ rfl rfl (by decide), ap 2 3 _ _ rfl rfl (by decide), ap 2 4 _ _ rfl rfl (by decide), ap 3 4 _ _ rfl rfl (by decide),
    ap 5 0 _ _ rfl rfl (by decide), ap 5 2 _ _ rfl rfl (by decide), ap 5 3 _ _ rfl rfl (by decide), ap 5 4 _ _ rfl rfl (by decide), ap 6 0 _ _ rfl rfl (by decide), ap 6 2 _ _ rfl rfl (by decide), ap 6 3 _ _ rfl rfl (by decide), ap 6 4 _ _ rfl rfl (by decide)⟩
theorem St.turnNew {W W' New : List Cell} (h : St σ G (W ++ L) s) {h' : Heap} {t : Nat} (hW : W'.map Prod.fst = W.map Prod.fst)
    (hk : ∀ b o, b ∉ W.map Prod.fst → s.heap.get? b = some o → h'.get? b = some o) (hP : ∀ p ∈ W', ∃ o, h'.get? p.1 = some o ∧ p.2 o)
    (hN : ∀ p ∈ New, s.heap.objs.size ≤ p.1 ∧ ∃ o, h'.get? p.1 = some o ∧ p.2 o) (hn : (New.map Prod.fst).Nodup) : St σ G (W' ++ (New ++ L)) { s with heap := h', toks := t } := by
  have h1 := h.turn (t := t) hW hk hP
  have low : ∀ p ∈ W' ++ L, p.1 < s.heap.objs.size := fun p hp => by
    rcases List.mem_append.mp hp with hp | hp
    · have : p.1 ∈ W.map Prod.fst := hW ▸ List.mem_map.mpr ⟨p, hp, rfl⟩
      obtain ⟨q, hq, e⟩ := List.mem_map.mp this
      rw [← e]; exact h.lt (List.mem_append_left _ hq)
    · exact h.lt (List.mem_append_right _ hp)
  have h2 : St σ G (New ++ (W' ++ L)) { s with heap := h', toks := t } := by
    refine ⟨h1.gens, h1.drawn, h1.os, h1.keep, fun p hp => ?_, ?_, fun p hp => ?_⟩
    · rcases List.mem_append.mp hp with hp | hp
      · exact (hN p hp).2
      · exact h1.live p hp
    · rw [List.map_append, List.nodup_append]
      refine ⟨hn, h1.nd, fun x hx y hy e => ?_⟩
      obtain ⟨p, hp, rfl⟩ := List.mem_map.mp hx
      obtain ⟨q, hq, rfl⟩ := List.mem_map.mp hy
      exact Nat.lt_irrefl _ (Nat.lt_of_lt_of_le (low q hq) (e ▸ (hN p hp).1))
    · rcases List.mem_append.mp hp with hp | hp
      · exact h.fresh (hN p hp).1
      · exact h1.off p hp
  exact h2.re
theorem Src.zipInts (hA : A.handled = none) (z TI TO i1 i2 l1 l2 : Addr) (ns ms : List Int) (n : Nat) (hn : n = min ns.length ms.length) (elts : List Expr) (x1 : Nat) (p : Pos) :
    Src prog w A σ (fun _ => G) (.ref z) (.Tuple elts x1 p) n [(l1, ils ns), (l2, ils ms)] (fun i => zipI z TI TO i1 i2 l1 l2 ns ms i)
      (fun i v W => ∃ a b T t u, ns[i]? = some a ∧ ms[i]? = some b ∧ v = .ref T ∧ W = [(T, tup [.int a t, .int b u])]) where
  next := fun {i L s K'} hi h k => by
    have D := zip_apart h
    have ha : ns[i]? = some ns[i] := List.getElem?_eq_getElem (by omega)
    have hb : ms[i]? = some ms[i] := List.getElem?_eq_getElem (by omega)
    obtain ⟨vs, n1, hv, q1⟩ := h.ilist (l := l1) (ns := ns) (List.mem_append_left _ (.tail _ (.tail _ (.tail _ (.tail _ (.tail _ (.head _)))))))
    obtain ⟨ws, n2, hw, q2⟩ := h.ilist (l := l2) (ns := ms) (List.mem_append_left _ (.tail _ (.tail _ (.tail _ (.tail _ (.tail _ (.tail _ (.head _))))))))
    obtain ⟨t, ht⟩ := hv.get _ _ ha
    obtain ⟨u, hu⟩ := hw.get _ _ hb
    obtain ⟨oz, hz, rfl⟩ := h.get (a := z) (P := zipO TI TO) (List.mem_append_left _ (.head _))
    obtain ⟨oI, hI, rfl⟩ := h.get (a := TI) (P := pairO (.ref i1) (.ref i2)) (List.mem_append_left _ (.tail _ (.head _)))
    obtain ⟨oO, hO, a0, b0, rfl⟩ := h.get (a := TO) (P := pairAny) (List.mem_append_left _ (.tail _ (.tail _ (.head _))))
    have j1 := h.isLit (a := i1) (l := l1) (i := i) (List.mem_append_left _ (.tail _ (.tail _ (.tail _ (.head _)))))
    have j2 := h.isLit (a := i2) (l := l2) (i := i) (List.mem_append_left _ (.tail _ (.tail _ (.tail _ (.tail _ (.head _))))))
    refine wpAny_pyNext_zip_item D hz hI hO j1 j2 q1.isList q2.isList (by rw [List.getElem?_toArray]; exact ht) (by rw [List.getElem?_toArray]; exact hu) (fun h' b1 b2 b3 b4 b5 _ bk => ?_)
    refine wpAny_letOwnedTupleGo_zip b1 (fun h'' c1 cs => k _ [(s.heap.objs.size, tup [.int ns[i] t, .int ms[i] u])] _ ⟨_, _, _, t, u, ha, hb, rfl, rfl⟩ ?_)
    have hp : St σ G ([(z, zipO TI TO), (TO, pairAny), (i1, lit l1 i), (i2, lit l2 i)] ++ ([(TI, pairO (.ref i1) (.ref i2)), (l1, ils ns), (l2, ils ms)] ++ L)) s := by
      refine h.re (e := ?_)
      intro a; simp only [zipI, cnt_cons, cnt_app, cnt_nil, Nat.zero_add, Nat.add_zero]; ac_rfl
    have far : ∀ (b : Addr) (o : Obj), b ≠ z → h'.get? b = some o → h''.get? b = some o := fun b o hb e => (cs.2 b hb).trans e
    have hfin := hp.turnNew (W' := [(z, zipO TI TO), (TO, pairAny), (i1, lit l1 (i + 1)), (i2, lit l2 (i + 1))]) (New := [(s.heap.objs.size, tup [.int ns[i] t, .int ms[i] u])]) (h' := h'') (t := s.toks) rfl
      (fun b o hb e => by
        simp only [List.map_cons, List.map_nil, List.mem_cons, List.not_mem_nil, or_false, not_or] at hb
        exact far b o hb.1 (bk b o hb.1 hb.2.1 hb.2.2.1 hb.2.2.2 e))
      (fun p hp => by
        simp only [List.mem_cons, List.not_mem_nil, or_false] at hp
        rcases hp with rfl | rfl | rfl | rfl
        · exact ⟨_, c1, rfl⟩
        · exact ⟨_, far _ _ D.TOz b2, _, _, rfl⟩
        · obtain ⟨o, ho, e⟩ := b3; exact ⟨o, far _ _ D.i1z ho, e⟩
        · obtain ⟨o, ho, e⟩ := b4; exact ⟨o, far _ _ D.i2z ho, e⟩)
      (fun p hp => by
        rw [List.mem_singleton.mp hp]
        exact ⟨Nat.le_refl _, _, far _ _ (Nat.ne_of_gt (Heap.lt_size hz)) b5, 0, rfl⟩)
      (by simp)
    refine hfin.re (e := ?_)
    intro a; simp only [zipI, cnt_cons, cnt_app, cnt_nil, Nat.zero_add, Nat.add_zero]; ac_rfl
  stop := fun {L s K'} h k => by
    have D := zip_apart h
    obtain ⟨vs, n1, hv, q1⟩ := h.ilist (l := l1) (ns := ns) (List.mem_append_left _ (.tail _ (.tail _ (.tail _ (.tail _ (.tail _ (.head _)))))))
    obtain ⟨ws, n2, hw, q2⟩ := h.ilist (l := l2) (ns := ms) (List.mem_append_left _ (.tail _ (.tail _ (.tail _ (.tail _ (.tail _ (.tail _ (.head _))))))))
    obtain ⟨oz, hz, rfl⟩ := h.get (a := z) (P := zipO TI TO) (List.mem_append_left _ (.head _))
    obtain ⟨oI, hI, rfl⟩ := h.get (a := TI) (P := pairO (.ref i1) (.ref i2)) (List.mem_append_left _ (.tail _ (.head _)))
    obtain ⟨oO, hO, a0, b0, rfl⟩ := h.get (a := TO) (P := pairAny) (List.mem_append_left _ (.tail _ (.tail _ (.head _))))
    have j1 := h.isLit (a := i1) (l := l1) (i := n) (List.mem_append_left _ (.tail _ (.tail _ (.tail _ (.head _)))))
    have j2 := h.isLit (a := i2) (l := l2) (i := n) (List.mem_append_left _ (.tail _ (.tail _ (.tail _ (.tail _ (.head _))))))
    refine wpAny_pyNext_zip_end hA D hz hI hO j1 j2 q1.isList q2.isList ?_ (fun h' bk => k _ ?_)
    · by_cases e : ns.length ≤ ms.length
      · left; rw [List.getElem?_toArray, List.getElem?_eq_none]; rw [hv.length]; omega
      · right; rw [List.getElem?_toArray, List.getElem?_eq_none]; rw [hw.length]; omega
    · have hp : St σ G ([(z, zipO TI TO), (TO, pairAny), (i1, lit l1 n), (i2, lit l2 n)] ++ ([(TI, pairO (.ref i1) (.ref i2)), (l1, ils ns), (l2, ils ms)] ++ L)) s := by
        refine h.re (e := ?_)
        intro a; simp only [zipI, cnt_cons, cnt_app, cnt_nil, Nat.zero_add, Nat.add_zero]; ac_rfl
      have h1 := hp.lose (h' := h') (t := s.toks) (fun b o hb e => by
        simp only [List.map_cons, List.map_nil, List.mem_cons, List.not_mem_nil, or_false, not_or] at hb
        exact bk b o hb.1 hb.2.1 hb.2.2.1 hb.2.2.2 e)
      exact h1.sub (List.sublist_cons_self _ _)
end
end Mine

namespace Mine
open PySem PySem.W PySem.Calls PyProof.Rows

def vdl (Sd Pd : Addr) : List (Str × Value) := [("_weight", .none), ("_nodes", .ref Sd), ("_pred", .ref Pd), ("_succ", .ref Sd)]
/-- the cells of a net that has no view yet -/
def net0 (prog : Program) (w : World) (x nd Sd Pd Nd Gd : Addr) (ns : List Int) (sa pa na : List Addr) (sr pr : List (List (Int × Value))) : List Cell :=
  (x, ins cDi nd) :: (nd, sd prog w (ndl Sd Pd Nd Gd)) :: (Sd, dct prog w (refs ns sa)) :: (Pd, dct prog w (refs ns pa)) :: (Nd, dct prog w (refs ns na)) :: (segD prog w sa sr ++ segD prog w pa pr)
/-- the same with its view -/
def net1 (prog : Program) (w : World) (x nd vx vd Sd Pd Nd Gd : Addr) (ns : List Int) (sa pa na : List Addr) (sr pr : List (List (Int × Value))) : List Cell :=
  (vx, ins cIn vd) :: (vd, sd prog w (vdl Sd Pd)) :: (x, ins cDi nd) :: (nd, sd prog w (ndl2 vx Sd Pd Nd Gd)) :: (Sd, dct prog w (refs ns sa)) :: (Pd, dct prog w (refs ns pa)) :: (Nd, dct prog w (refs ns na)) :: (segD prog w sa sr ++ segD prog w pa pr)

theorem net1_at {prog : Program} {w : World} {x nd vx vd Sd Pd Nd Gd : Addr} {ns : List Int} {sa pa na : List Addr} {sr pr : List (List (Int × Value))} {suc : Int → List Int} (hn : ns.Nodup) (l1 : sa.length = ns.length) (l2 : na.length = ns.length) (l3 : sr.length = ns.length)
    (hs : ∀ j n, ns[j]? = some n → (sr.getD j []).map (·.1) = suc n) : NetAt prog w x nd vx Sd Pd Nd Gd (refs ns sa) (refs ns na) suc ns (net1 prog w x nd vx vd Sd Pd Nd Gd ns sa pa na sr pr) where
  x := .tail _ (.tail _ (.head _))
  nd := .tail _ (.tail _ (.tail _ (.head _)))
  S := .tail _ (.tail _ (.tail _ (.tail _ (.head _))))
  N := .tail _ (.tail _ (.tail _ (.tail _ (.tail _ (.tail _ (.head _))))))
  has := fun n hm => by
    obtain ⟨j, hj⟩ := List.mem_iff_getElem?.mp hm
    have hj' := (List.getElem?_eq_some_iff.mp hj).1
    obtain ⟨a, ha⟩ : ∃ a, na[j]? = some a := ⟨_, List.getElem?_eq_getElem (by omega)⟩
    rw [refs_at hj ha l2 hn]; rfl
  suc := fun n hm => by
    obtain ⟨j, hj⟩ := List.mem_iff_getElem?.mp hm
    have hj' := (List.getElem?_eq_some_iff.mp hj).1
    obtain ⟨a, ha⟩ : ∃ a, sa[j]? = some a := ⟨_, List.getElem?_eq_getElem (by omega)⟩
    obtain ⟨r, hr⟩ : ∃ r, sr[j]? = some r := ⟨_, List.getElem?_eq_getElem (by omega)⟩
    refine ⟨a, r, refs_at hj ha l1 hn, .tail _ (.tail _ (.tail _ (.tail _ (.tail _ (.tail _ (.tail _ (List.mem_append_left _ (mem_segD ha hr)))))))), ?_⟩
    have := hs j n hj
    rwa [List.getD_eq_getElem?_getD, hr] at this

section
variable {prog : Program} {w : World} {A : Around} {σ s : Shared} {G Gr : Array GenState → Prop} {L L' R : List Cell} {K : Frag} {mg : Str → Option Value} {env : Env}

/-- the counts, by the view that stands -/
theorem tg_zeros (B : Base σ mg) (X : K.In σ.heap) (N : NF K) (V : NV K) (NGf : NG K) (hA : A.handled = none) (hd : A.depth ≤ 870) (gl : mg "len" = none) {q : Str} {fa : Option Addr} {cd : Value} {fm : Option Addr} {Lf x nd vx vd Sd Pd Nd Gd Dm : Addr} {ns : List Int} {sa pa na : List Addr} {sr pr : List (List (Int × Value))} {ind : List (Int × Int)}
    (hn : ns.Nodup) (hz : ns.length ≤ 60) (l1 : sa.length = ns.length) (l2 : pa.length = ns.length) (l4 : pr.length = ns.length) (hpr : ∀ r ∈ pr, r.length ≤ 100) {F : Nat → GenState → Prop} {ex : List Nat} (hF : ∀ j, j ∉ ex → F j .finished) {Q : Flow → Shared → Prop}
    (h : St σ (GS F ex) ((Lf, fr [("indegree_map", .ref Dm), ("multigraph", .bool false), ("G", .ref x)]) :: (Dm, dci prog w ind) :: (net1 prog w x nd vx vd Sd Pd Nd Gd ns sa pa na sr pr ++ L)) s)
    (k : ∀ zl s', St σ (GS F ex) ((Lf, fr (tgFr x Dm zl)) :: (Dm, dci prog w ind) :: (zl, ils (zero0 (degs ns pr))) :: (net1 prog w x nd vx vd Sd Pd Nd Gd ns sa pa na sr pr ++ L)) s' → Q .next s') :
    Wc prog w A (exec (nthS tgB 3) (envM tgScope [] q fa cd fm Lf)) Q s := by
  refine c_assignListComp [] rfl (c_of (T_method ?_))
  refine t_name h ?_
  refine T_getMethodOwn X N.di V.inDeg V.inDegF V.inDegT h (x := x) (dx := nd) (by repeat (first | exact List.Mem.head _ | apply List.Mem.tail | apply List.mem_append_right _)) (by repeat (first | exact List.Mem.head _ | apply List.Mem.tail | apply List.mem_append_right _)) rfl rfl (fun s h => ?_)
  refine N_call0 X V.call NGf.vcall NGf.vcallF h (x := vx) (dx := vd) (by repeat (first | exact List.Mem.head _ | apply List.Mem.tail | apply List.mem_append_right _)) (by repeat (first | exact List.Mem.head _ | apply List.Mem.tail | apply List.mem_append_right _)) ?_
  have h : St σ (GS F ex) ((vx, ins cIn vd) :: (vd, sd prog w [("_weight", .none), ("_nodes", .ref Sd), ("_pred", .ref Pd), ("_succ", .ref Sd)]) :: ((Lf, fr [("indegree_map", .ref Dm), ("multigraph", .bool false), ("G", .ref x)]) :: (Dm, dci prog w ind) :: (x, ins cDi nd) :: (nd, sd prog w (ndl2 vx Sd Pd Nd Gd)) :: (Sd, dct prog w (refs ns sa)) :: (Pd, dct prog w (refs ns pa)) :: (Nd, dct prog w (refs ns na)) :: (segD prog w sa sr ++ (segD prog w pa pr ++ L)))) s := by
    refine h.re (e := ?_)
    intro a; simp only [net1, vdl, cnt_cons, cnt_app, cnt_nil, Nat.zero_add, Nat.add_zero]; ac_rfl
  refine call_vcall B X V (by omega) h (fun s h => ?_)
  have h : St σ (GS F ex) (vw prog w vx cIn vd Sd Pd (refs ns sa) ns pa pr ++ ((Lf, fr [("indegree_map", .ref Dm), ("multigraph", .bool false), ("G", .ref x)]) :: (Dm, dci prog w ind) :: (x, ins cDi nd) :: (nd, sd prog w (ndl2 vx Sd Pd Nd Gd)) :: (Nd, dct prog w (refs ns na)) :: (segD prog w sa sr ++ L))) s := by
    refine h.re (e := ?_)
    intro a; simp only [vw, cnt_cons, cnt_app, cnt_nil, Nat.zero_add, Nat.add_zero]; ac_rfl
  refine it_iter B X hA (by omega) gl V.view V.fIter V.iter NGf.viter hF (refs_fst l1) hn l2 l4 hpr h (fun ag g2 Lf2 wc s hgF h => ?_)
  have hsk : (refs ns sa).length = ns.length := by have := congrArg List.length (refs_fst l1); rwa [List.length_map] at this
  refine c_crunUse (P0 := ils []) (G' := GS F ex) h (fun Q k => I_newList h .nil (fun a s h => k a s h)) (fun acc Cc s h => ?_)
  refine codeC_ofC (T_compStart1 rfl rfl (fun Q' q => T_iterGen (a := ag) (g := g2) h (by repeat (first | exact List.Mem.head _ | apply List.Mem.tail | apply List.mem_append_right _)) q) ?_)
  refine T_compLoopE (turn_L1 ..) (SrcE.gen (A := A) hA B.lim (by omega) ag g2 F ex hgF _ _ _ _ _ ⟨_, _, _, .inl rfl⟩) (fun i L' => L' = (Cc, fr []) :: (acc, ils (zero0 ((degs ns pr).take i))) :: ((Lf, fr [("indegree_map", .ref Dm), ("multigraph", .bool false), ("G", .ref x)]) :: (Dm, dci prog w ind) :: (x, ins cDi nd) :: (nd, sd prog w (ndl2 vx Sd Pd Nd Gd)) :: (Nd, dct prog w (refs ns na)) :: (segD prog w sa sr ++ L))) (X := (ag, gob g2) :: (Lf2, fr [("self", .ref vx)]) :: (wc, cel none) :: vw prog w vx cIn vd Sd Pd (refs ns sa) ns pa pr) ⟨_, rfl, rfl⟩ (h.re) rfl ?_ ?_
  · rintro i v W X2 L' s hi ⟨n, T, t, u, r, hni, hri, rfl, rfl⟩ rfl hX2 h
    have hdi := degs_at hni hri
    have ez : zero0 ((degs ns pr).take (i + 1)) = zero0 ((degs ns pr).take i) ++ (if ((r.length : Int) == 0) = true then [n] else []) := by
      unfold zero0
      rw [List.take_add_one, hdi, Option.toList_some, List.filter_append, List.map_append]
      congr 1
      by_cases e : ((r.length : Int) == 0) = true
      · rw [if_pos e]; simp [e]
      · rw [if_neg e]; simp [e]
    have hzl : (zero0 ((degs ns pr).take i)).length ≤ 100 := by
      have q := List.length_filter_le (fun p : Int × Int => p.2 == 0) ((degs ns pr).take i)
      unfold zero0
      rw [List.length_map]
      rw [List.length_take, degs_len l4] at q
      omega
    generalize hRest : ((Lf, fr [("indegree_map", .ref Dm), ("multigraph", .bool false), ("G", .ref x)]) :: (Dm, dci prog w ind) :: (x, ins cDi nd) :: (nd, sd prog w (ndl2 vx Sd Pd Nd Gd)) :: (Nd, dct prog w (refs ns na)) :: (segD prog w sa sr ++ L)) = Rest at h ⊢
    have h : St σ _ ((T, tup [.int n t, .int r.length u]) :: (Cc, fr []) :: (acc, ils (zero0 ((degs ns pr).take i))) :: (X2 ++ Rest)) s := h.re
    refine T_assignTuple hA h (fun s h => T_order (T_assignN ?_))
    refine t_store h (fun s h => T_order (T_assignN ?_))
    refine t_store h (fun s h => T_order0 ?_)
    refine T_tests1 (T_isCompare ?_)
    refine t_name h (T_int h (fun t2 s h => T_eqInt (T_truthyBool ?_)))
    have h : St σ _ ((T, tup [.int n t, .int r.length u]) :: (Cc, fr [("d", .int r.length u), ("v", .int n t)]) :: (acc, ils (zero0 ((degs ns pr).take i))) :: (X2 ++ Rest)) s := h
    by_cases e : ((r.length : Int) == 0) = true
    · refine ite_yes e ?_
      rw [if_pos e] at ez
      refine T_emitList ?_
      refine t_name h ?_
      refine i_append h (fun s h => ?_)
      rw [← ez] at h
      have h : St σ _ ((T, tup [.int n t, .int r.length u]) :: (Cc, fr []) :: (acc, ils (zero0 ((degs ns pr).take (i + 1)))) :: (X2 ++ Rest)) s := h.frame [_] []
      have h := h.sub (List.sublist_cons_self _ _)
      exact ⟨_, rfl, h.re⟩
    · refine ite_no (by simpa using e) ?_
      rw [if_neg e, List.append_nil] at ez
      rw [← ez] at h
      have h : St σ _ ((T, tup [.int n t, .int r.length u]) :: (Cc, fr []) :: (acc, ils (zero0 ((degs ns pr).take (i + 1)))) :: (X2 ++ Rest)) s := h.frame [_] []
      have h := h.sub (List.sublist_cons_self _ _)
      exact ⟨_, rfl, h.re⟩
  · rintro X2 L' s rfl rfl h
    have ht : (degs ns pr).take (refs ns sa).length = degs ns pr := by rw [hsk, ← degs_len l4, List.take_length]
    rw [ht] at h
    have h : St σ (GS F ex) ((Cc, fr []) :: (Lf, fr [("indegree_map", .ref Dm), ("multigraph", .bool false), ("G", .ref x)]) :: (Dm, dci prog w ind) :: (acc, ils (zero0 (degs ns pr))) :: (net1 prog w x nd vx vd Sd Pd Nd Gd ns sa pa na sr pr ++ L)) s := by
      refine h.re (e := ?_)
      intro a; simp only [vw, net1, vdl, cnt_cons, cnt_app, cnt_nil, Nat.zero_add, Nat.add_zero]; ac_rfl
    refine T_assignN ?_
    exact t_store h (fun s h => ⟨_, _, h, fun s h => k _ s h⟩)
end
end Mine

namespace Mine
open PySem PySem.W PySem.Calls PyProof.Rows

section
variable {prog : Program} {w : World} {A : Around} {σ s : Shared} {G Gr : Array GenState → Prop} {L L' R : List Cell} {K : Frag} {mg : Str → Option Value} {env : Env}

/-- the counts above zero; the view is made here -/
theorem tg_inds (B : Base σ mg) (X : K.In σ.heap) (N : NF K) (V : NV K) (NGf : NG K) (hAl : Alone σ) (hA : A.handled = none) (hd : A.depth ≤ 870) (gl : mg "len" = none) (g1 : mg "hasattr" = none) (g2 : mg "InDegreeView" = some (.ref cIn)) (g3 : mg "_NOT_FOUND" = some (.ref 506)) {q : Str} {fa : Option Addr} {cd : Value} {fm : Option Addr} {Lf x nd Sd Pd Nd Gd : Addr} {ns : List Int} {sa pa na : List Addr} {sr pr : List (List (Int × Value))}
    (hn : ns.Nodup) (hz : ns.length ≤ 60) (l1 : sa.length = ns.length) (l2 : pa.length = ns.length) (l4 : pr.length = ns.length) (hpr : ∀ r ∈ pr, r.length ≤ 100) {F : Nat → GenState → Prop} {ex : List Nat} (hF : ∀ j, j ∉ ex → F j .finished) {Q : Flow → Shared → Prop}
    (h : St σ (GS F ex) ((Lf, fr [("multigraph", .bool false), ("G", .ref x)]) :: (net0 prog w x nd Sd Pd Nd Gd ns sa pa na sr pr ++ L)) s)
    (k : ∀ vx vd Dm s', St σ (GS F ex) ((Lf, fr [("indegree_map", .ref Dm), ("multigraph", .bool false), ("G", .ref x)]) :: (Dm, dci prog w (ind0 (degs ns pr))) :: (net1 prog w x nd vx vd Sd Pd Nd Gd ns sa pa na sr pr ++ L)) s' → Q .next s') :
    Wc prog w A (exec (nthS tgB 2) (envM tgScope [] q fa cd fm Lf)) Q s := by
  refine c_assignDictComp [] rfl (c_method ?_)
  refine t_name h ?_
  have h : St σ (GS F ex) ((x, ins cDi nd) :: (nd, sd prog w (ndl Sd Pd Nd Gd)) :: ((Lf, fr [("multigraph", .bool false), ("G", .ref x)]) :: (Sd, dct prog w (refs ns sa)) :: (Pd, dct prog w (refs ns pa)) :: (Nd, dct prog w (refs ns na)) :: (segD prog w sa sr ++ (segD prog w pa pr ++ L)))) s := by
    refine h.re (e := ?_)
    intro a; simp only [net0, cnt_cons, cnt_app, cnt_nil, Nat.zero_add, Nat.add_zero]; ac_rfl
  refine c_getMethodBind X N.di V.inDeg V.inDegF V.inDegT h (x := x) (dx := nd) (by repeat (first | exact List.Mem.head _ | apply List.Mem.tail | apply List.mem_append_right _)) (by repeat (first | exact List.Mem.head _ | apply List.Mem.tail | apply List.mem_append_right _)) rfl rfl (fun A' s hd' hA' h => ?_)
  refine call_cget B X N V hAl g1 g2 g3 (by omega) h (fun vx vd s h => ⟨rfl, ?_⟩)
  refine c_of ?_
  refine N_call0 X V.call NGf.vcall NGf.vcallF h (x := vx) (dx := vd) (by repeat (first | exact List.Mem.head _ | apply List.Mem.tail | apply List.mem_append_right _)) (by repeat (first | exact List.Mem.head _ | apply List.Mem.tail | apply List.mem_append_right _)) ?_
  refine call_vcall B X V (by omega) h (fun s h => ?_)
  have h : St σ (GS F ex) (vw prog w vx cIn vd Sd Pd (refs ns sa) ns pa pr ++ ((Lf, fr [("multigraph", .bool false), ("G", .ref x)]) :: (x, ins cDi nd) :: (nd, sd prog w (ndl2 vx Sd Pd Nd Gd)) :: (Nd, dct prog w (refs ns na)) :: (segD prog w sa sr ++ L))) s := by
    refine h.re (e := ?_)
    intro a; simp only [vw, ndl2, cnt_cons, cnt_app, cnt_nil, Nat.zero_add, Nat.add_zero]; ac_rfl
  refine it_iter B X hA (by omega) gl V.view V.fIter V.iter NGf.viter hF (refs_fst l1) hn l2 l4 hpr h (fun ag g2 Lf2 wc s hgF h => ?_)
  have hsk : (refs ns sa).length = ns.length := by have := congrArg List.length (refs_fst l1); rwa [List.length_map] at this
  refine c_crunUse (P0 := dct prog w []) (G' := GS F ex) h (fun Q k => D_new h (fun a s h => k a s h)) (fun acc Cc s h => ?_)
  refine codeC_ofC (T_compStart1 rfl rfl (fun Q' q => T_iterGen (a := ag) (g := g2) h (by repeat (first | exact List.Mem.head _ | apply List.Mem.tail | apply List.mem_append_right _)) q) ?_)
  have h := St.shut (F := [_]) h (fun o ho => dci_nil ho)
  refine T_compLoopE (turn_D1 ..) (SrcE.gen (A := A) hA B.lim (by omega) ag g2 F ex hgF _ _ _ _ _ ⟨_, _, _, .inl rfl⟩) (fun i L' => L' = (Cc, fr []) :: (acc, dci prog w (ind0 ((degs ns pr).take i))) :: ((Lf, fr [("multigraph", .bool false), ("G", .ref x)]) :: (x, ins cDi nd) :: (nd, sd prog w (ndl2 vx Sd Pd Nd Gd)) :: (Nd, dct prog w (refs ns na)) :: (segD prog w sa sr ++ L))) (X := (ag, gob g2) :: (Lf2, fr [("self", .ref vx)]) :: (wc, cel none) :: vw prog w vx cIn vd Sd Pd (refs ns sa) ns pa pr) ⟨_, rfl, rfl⟩ (h.re) rfl ?_ ?_
  · rintro i v W X2 L' s hi ⟨n, T, t, u, r, hni, hri, rfl, rfl⟩ rfl hX2 h
    have hdi := degs_at hni hri
    have ez : ind0 ((degs ns pr).take (i + 1)) = ind0 ((degs ns pr).take i) ++ (if decide ((0 : Int) < r.length) = true then [(n, (r.length : Int))] else []) := by
      unfold ind0
      rw [List.take_add_one, hdi, Option.toList_some, List.filter_append]
      congr 1
      by_cases e : decide ((0 : Int) < r.length) = true
      · rw [if_pos e, List.filter_cons]; exact if_pos e
      · rw [if_neg e, List.filter_cons]; exact if_neg e
    have hzl : (ind0 ((degs ns pr).take i)).length ≤ 100 := by
      have q := List.length_filter_le (fun p : Int × Int => decide (0 < p.2)) ((degs ns pr).take i)
      unfold ind0
      rw [List.length_take, degs_len l4] at q
      omega
    have hnew : n ∉ (ind0 ((degs ns pr).take i)).map (·.1) := keys_take (by rw [degs_keys l4]; exact hn) hdi
    generalize hRest : ((Lf, fr [("multigraph", .bool false), ("G", .ref x)]) :: (x, ins cDi nd) :: (nd, sd prog w (ndl2 vx Sd Pd Nd Gd)) :: (Nd, dct prog w (refs ns na)) :: (segD prog w sa sr ++ L)) = Rest at h ⊢
    have h : St σ _ ((T, tup [.int n t, .int r.length u]) :: (Cc, fr []) :: (acc, dci prog w (ind0 ((degs ns pr).take i))) :: (X2 ++ Rest)) s := h.re
    refine T_assignTuple hA h (fun s h => T_order (T_assignN ?_))
    refine t_store h (fun s h => T_order (T_assignN ?_))
    refine t_store h (fun s h => T_order0 ?_)
    refine T_tests1 (T_isCompare ?_)
    refine t_name h (T_int h (fun t2 s h => T_gtInt (T_truthyBool ?_)))
    have h : St σ _ ((T, tup [.int n t, .int r.length u]) :: (Cc, fr [("d", .int r.length u), ("v", .int n t)]) :: (acc, dci prog w (ind0 ((degs ns pr).take i))) :: (X2 ++ Rest)) s := h
    by_cases e : decide ((0 : Int) < r.length) = true
    · refine ite_yes e ?_
      rw [if_pos e] at ez
      refine T_emitDict ?_
      refine t_name h ?_
      refine t_name h ?_
      refine K_dictNew h (by repeat (first | exact Put.here | apply Put.there | apply put_skip)) hnew (by omega) (fun s h => ?_)
      rw [← ez] at h
      have h : St σ _ ((T, tup [.int n t, .int r.length u]) :: (Cc, fr []) :: (acc, dci prog w (ind0 ((degs ns pr).take (i + 1)))) :: (X2 ++ Rest)) s := h.frame [_] []
      have h := h.sub (List.sublist_cons_self _ _)
      exact ⟨_, rfl, h.re⟩
    · refine ite_no (by simpa using e) ?_
      rw [if_neg e, List.append_nil] at ez
      rw [← ez] at h
      have h : St σ _ ((T, tup [.int n t, .int r.length u]) :: (Cc, fr []) :: (acc, dci prog w (ind0 ((degs ns pr).take (i + 1)))) :: (X2 ++ Rest)) s := h.frame [_] []
      have h := h.sub (List.sublist_cons_self _ _)
      exact ⟨_, rfl, h.re⟩
  · rintro X2 L' s rfl rfl h
    have ht : (degs ns pr).take (refs ns sa).length = degs ns pr := by rw [hsk, ← degs_len l4, List.take_length]
    rw [ht] at h
    have h : St σ (GS F ex) ((Cc, fr []) :: (Lf, fr [("multigraph", .bool false), ("G", .ref x)]) :: (acc, dci prog w (ind0 (degs ns pr))) :: (net1 prog w x nd vx vd Sd Pd Nd Gd ns sa pa na sr pr ++ L)) s := by
      refine h.re (e := ?_)
      intro a; simp only [vw, net1, vdl, cnt_cons, cnt_app, cnt_nil, Nat.zero_add, Nat.add_zero]; ac_rfl
    refine T_assignN ?_
    exact t_store h (fun s h => ⟨_, _, h, fun s h => k _ _ _ s h⟩)

/-- the generator's first stretch -/
theorem tg_first (B : Base σ mg) (X : K.In σ.heap) (N : NF K) (V : NV K) (NGf : NG K) (hAl : Alone σ) (hA : A.handled = none) (hd : A.depth ≤ 860) (gl : mg "len" = none) (g0 : mg "iter" = none) (g1 : mg "hasattr" = none) (g2 : mg "InDegreeView" = some (.ref cIn)) (g3 : mg "_NOT_FOUND" = some (.ref 506)) {q : Str} {fa : Option Addr} {cd : Value} {fm : Option Addr} {Lf x nd Sd Pd Nd Gd : Addr} {ns : List Int} {sa pa na : List Addr} {sr pr : List (List (Int × Value))}
    (hn : ns.Nodup) (hz : ns.length ≤ 60) (l1 : sa.length = ns.length) (l2 : pa.length = ns.length) (l0 : na.length = ns.length) (l3 : sr.length = ns.length) (l4 : pr.length = ns.length) (hpr : ∀ r ∈ pr, r.length ≤ 100) {F : Nat → GenState → Prop} {ex : List Nat} (hF : ∀ j, j ∉ ex → F j .finished)
    {suc : Int → List Int} (hs : ∀ j n, ns[j]? = some n → (sr.getD j []).map (·.1) = suc n) {gs : Nat → List (Int × Int) × List Int} {M : Nat} (KR : KRun suc ns gs M) (hg0 : gs 0 = (ind0 (degs ns pr), zero0 (degs ns pr)))
    (h : St σ (GS F ex) ((Lf, fr [("G", .ref x)]) :: (net0 prog w x nd Sd Pd Nd Gd ns sa pa na sr pr ++ L)) s) :
    SegC (model prog w) A (Zp prog w A σ (GS F ex) M (fun _ => True) (tgI prog w Lf x nd Sd Pd Nd Gd (refs ns sa) (refs ns na) suc ns gs) (tgV gs) M L) (.func tgB (envM tgScope [] q fa cd fm Lf)) ((model prog w).den (.func tgB (envM tgScope [] q fa cd fm Lf))) [] s := by
  have hdd : (A.over (.func tgB (envM tgScope [] q fa cd fm Lf)) []).depth ≤ 870 := by
    have e : (A.over (.func tgB (envM tgScope [] q fa cd fm Lf)) []).depth = A.depth + 1 := rfl
    rw [e]; omega
  refine s_func ?_
  refine s_st rfl (c_of (T_if (T_isNot (T_isAny (T_method ?_)))))
  refine t_name h ?_
  refine T_getMethodFn X N.di N.mDir N.fDir.isFn h (x := x) (dx := nd) (by repeat (first | exact List.Mem.head _ | apply List.Mem.tail | apply List.mem_append_right _)) (by repeat (first | exact List.Mem.head _ | apply List.Mem.tail | apply List.mem_append_right _)) rfl ?_
  obtain ⟨nm, ql, kV, doc, pm, an, cdv, ct, Fa⟩ := N.fDir.fn X
  refine T_withF0 Fa ?_
  refine call_isDirected B X N (by omega) h (fun s h => T_truthyBool ?_)
  refine ite_no rfl (T_nil ?_)
  refine s_st rfl (c_of (T_assignName (T_method ?_)))
  refine t_name h ?_
  refine T_getMethodFn X N.di N.mMul N.fMul.isFn h (x := x) (dx := nd) (by repeat (first | exact List.Mem.head _ | apply List.Mem.tail | apply List.mem_append_right _)) (by repeat (first | exact List.Mem.head _ | apply List.Mem.tail | apply List.mem_append_right _)) rfl ?_
  obtain ⟨nm, ql, kV, doc, pm, an, cdv, ct, Fb⟩ := N.fMul.fn X
  refine T_withF0 Fb ?_
  refine call_isMulti B X N (by omega) h (fun s h => ?_)
  refine t_store h (fun s h => ?_)
  refine s_st rfl (tg_inds (A := A.over _ _) B X N V NGf hAl (by exact hA) hdd gl g1 g2 g3 hn hz l1 l2 l4 hpr hF h (fun vx vd Dm s h => ?_))
  refine s_st rfl (tg_zeros (A := A.over _ _) B X N V NGf (by exact hA) hdd gl hn hz l1 l2 l4 hpr hF h (fun zl s h => ?_))
  refine s_of (z_cons (z_while (fun p => ?_)))
  refine tg_turns B X N NGf hA (by omega) g0 (net1_at hn l1 l0 l3 hs) KR (fun zl L s h => ?_) M 0 zl L s (by omega) (by rw [hg0]; exact h)
  refine z_cons (z_if (T_isName ?_))
  refine t_name h ?_
  refine K_truthy h (by repeat (first | exact List.Mem.head _ | apply List.Mem.tail | apply List.mem_append_right _)) (by simp) (fun s h => ?_)
  refine ite_no rfl (z_nil ?_)
  exact z_fin ⟨rfl, _, trivial, h⟩
end
end Mine

namespace Mine
open PySem PySem.W PySem.Calls PyProof.Rows

def tgIX (prog : Program) (w : World) (Lf x nd Sd Pd Nd Gd : Addr) (ns : List Int) (sa pa na : List Addr) (sr pr : List (List (Int × Value))) (suc : Int → List Int) (gs : Nat → List (Int × Int) × List Int) : Nat → List Cell → Prop
  | 0, X => X = (Lf, fr [("G", .ref x)]) :: net0 prog w x nd Sd Pd Nd Gd ns sa pa na sr pr
  | i + 1, X => tgI prog w Lf x nd Sd Pd Nd Gd (refs ns sa) (refs ns na) suc ns gs (i + 1) X
def tgG (prog : Program) (w : World) (A : Around) (σ : Shared) (F : Nat → GenState → Prop) (ex : List Nat) (g : Nat) (cf : Code) (M : Nat) (I : Nat → List Cell → Prop) (V : Nat → Value → List Cell → Prop) : Nat → List Cell → Array GenState → Prop
  | 0, _ => GS (upF F g (· = .fresh cf)) (g :: ex)
  | i + 1, X => GS (upF F g (GoodZ prog w A.in1 σ (GS (upF F g (· = .running)) (g :: ex)) M (fun _ => True) I V (M - (i + 1)) X.tail)) (g :: ex)

section
variable {prog : Program} {w : World} {A : Around} {σ s : Shared} {G Gr : Array GenState → Prop} {L L' R : List Cell} {K : Frag} {mg : Str → Option Value} {env : Env}

theorem tg_src (B : Base σ mg) (X : K.In σ.heap) (N : NF K) (V : NV K) (NGf : NG K) (hAl : Alone σ) (hA : A.handled = none) (hd : A.depth ≤ 850) (gl : mg "len" = none) (g0 : mg "iter" = none) (g1 : mg "hasattr" = none) (g2 : mg "InDegreeView" = some (.ref cIn)) (g3 : mg "_NOT_FOUND" = some (.ref 506)) {q : Str} {fa : Option Addr} {cd : Value} {fm : Option Addr} {Lf x nd Sd Pd Nd Gd : Addr} {ns : List Int} {sa pa na : List Addr} {sr pr : List (List (Int × Value))}
    (hn : ns.Nodup) (hz : ns.length ≤ 60) (l1 : sa.length = ns.length) (l2 : pa.length = ns.length) (l0 : na.length = ns.length) (l3 : sr.length = ns.length) (l4 : pr.length = ns.length) (hpr : ∀ r ∈ pr, r.length ≤ 100) {F : Nat → GenState → Prop} {ex : List Nat} (hF : ∀ j, j ∉ ex → F j .finished)
    {suc : Int → List Int} (hs : ∀ j n, ns[j]? = some n → (sr.getD j []).map (·.1) = suc n) {gs : Nat → List (Int × Int) × List Int} {M : Nat} (KR : KRun suc ns gs M) (hM : 0 < M) (hg0 : gs 0 = (ind0 (degs ns pr), zero0 (degs ns pr))) (a : Addr) (g : Nat) (hgF : F g .finished)
    (tg : Expr) (htg : ∃ elts c p, tg = .Tuple elts c p ∨ ∃ x, tg = .Name x p) :
    SrcC prog w A σ (tgG prog w A σ F ex g (.func tgB (envM tgScope [] q fa cd fm Lf)) M (tgI prog w Lf x nd Sd Pd Nd Gd (refs ns sa) (refs ns na) suc ns gs) (tgV gs)) (GS F ex) (.ref a) tg M (fun _ => True)
      (fun i X => ∃ X0, X = (a, gob g) :: X0 ∧ tgIX prog w Lf x nd Sd Pd Nd Gd ns sa pa na sr pr suc gs i X0) (tgV gs) where
  next := fun {i Y L s K'} hi hI h k => by
    cases i with
    | zero =>
      obtain ⟨X0, rfl, hI⟩ := hI
      have hI : X0 = (Lf, fr [("G", .ref x)]) :: net0 prog w x nd Sd Pd Nd Gd ns sa pa na sr pr := hI
      subst hI
      have hG : GS (upF F g (· = .fresh (.func tgB (envM tgScope [] q fa cd fm Lf)))) (g :: ex) s.gens := h.gens
      obtain ⟨gst, hgs, rfl⟩ := hG.get
      have h1 : St σ (GS (upF F g (· = .running)) (g :: ex)) (((a, gob g) :: ((Lf, fr [("G", .ref x)]) :: net0 prog w x nd Sd Pd Nd Gd ns sa pa na sr pr)) ++ L) (s.setGen g .running) := h.regen (hG.set rfl)
      have h2 : St σ (GS (upF F g (· = .running)) (g :: ex)) (((Lf, fr [("G", .ref x)]) :: net0 prog w x nd Sd Pd Nd Gd ns sa pa na sr pr) ++ ((a, gob g) :: L)) (s.setGen g .running) := h1.perm List.perm_middle.symm
      have hgen : s.heap.IsGen a g := by
        obtain ⟨o, ho, nm, qn, e1, e2, e3⟩ := h.get (.head _)
        exact ⟨o, nm, qn, ho, e1, e2, e3⟩
      obtain ⟨m, rfl⟩ : ∃ m, M = m + 1 := ⟨M - 1, by omega⟩
      refine c_pyNext (B.lim.keeps h.keep) (Nat.lt_of_le_of_lt hd (by decide)) hgen hgs (tg_first (A := A.in1) B X N V NGf hAl hA (Nat.le_trans hd (by decide)) gl g0 g1 g2 g3 hn hz l1 l2 l0 l3 l4 hpr (F := upF F g (· = .running)) (ex := g :: ex) (fun j hj => ?_) hs KR hg0 h2) (fun e s₁ he => ?_)
      · unfold upF
        rw [if_neg (fun q => hj (by rw [q]; exact .head _))]
        exact hF j (fun q => hj (.tail _ q))
      · obtain ⟨v, g', l', k', c', p', fs', W, X', rfl, hq, hV, hI', hS, hgood⟩ := he
        refine ⟨hq, ?_⟩
        have e1 : m + 1 - (m + 1) = 0 := by omega
        have e2 : m + 1 - m = 0 + 1 := by omega
        rw [e1] at hV
        rw [e2] at hI'
        have h5 : St σ (tgG prog w A σ F ex g (.func tgB (envM tgScope [] q fa cd fm Lf)) (m + 1) (tgI prog w Lf x nd Sd Pd Nd Gd (refs ns sa) (refs ns na) suc ns gs) (tgV gs) (0 + 1) ((a, gob g) :: X')) (((a, gob g) :: X') ++ (W ++ L)) (s₁.setGen g (End.susp v g' l' k' c' p' fs').genState) := by
          refine St.perm (L := X' ++ (W ++ ((a, gob g) :: L))) (hS.regen ?_) ?_
          · show GS (upF F g (GoodZ prog w A.in1 σ (GS (upF F g (· = .running)) (g :: ex)) (m + 1) (fun _ => True) _ (tgV gs) (m + 1 - (0 + 1)) X')) (g :: ex) _
            rw [show m + 1 - (0 + 1) = m by omega]
            exact hS.gens.set hgood
          · rw [← List.append_assoc, ← List.append_assoc]
            exact List.perm_middle
        exact letOwned_gen h5 (.head _) (k v W _ _ hV ⟨X', rfl, hI'⟩ h5) htg
    | succ j =>
      exact c_of ((SrcE.gen (A := A) hA B.lim (by omega) a g F ex hgF M (fun _ => True) (tgI prog w Lf x nd Sd Pd Nd Gd (refs ns sa) (refs ns na) suc ns gs) (tgV gs) tg htg).next (i := j + 1) (X := Y) (L := L) hi hI h k)
  stop := fun {Y L s K'} hI h k => by
    obtain ⟨m, rfl⟩ : ∃ m, M = m + 1 := ⟨M - 1, by omega⟩
    exact c_of ((SrcE.gen (A := A) hA B.lim (by omega) a g F ex hgF (m + 1) (fun _ => True) (tgI prog w Lf x nd Sd Pd Nd Gd (refs ns sa) (refs ns na) suc ns gs) (tgV gs) tg htg).stop (X := Y) (L := L) hI h k)
end
end Mine

namespace Mine
open PySem PySem.W PySem.Calls PyProof.Rows

def enumObj (f0 f1 : Value) (it : Addr) (i : Int) (old : Value) : Obj := { cls := .type "enumerate", dict := none, data := .fields #[f0, f1, .ref it, rawInt i, .none, old], slots := #[] }
/-- an enumerate whose last tuple is still out -/
def enmO (it T : Addr) (b : Bool) (i : Int) : Pr := fun o => ∃ old, o = enumObj (rawInt T) (.bool b) it i old

section
variable {prog : Program} {w : World} {A : Around} {σ s : Shared} {G : Array GenState → Prop} {L L' R : List Cell} {env : Env}

theorem wpAny_loadIfAlive {a : Addr} {E : Value → Shared → Prop} {Q : Option Obj → Shared → Prop} (h : Q (s.heap.get? a) s) : wpAny (model prog w) A (loadIfAlive a) Q E s := fun Γ p _ => h

theorem enum_next_out {e it l T : Addr} {b : Bool} {i : Nat} {items : Array Value} {x old : Value} {oT : Obj} {E : Value → Shared → Prop} {Q : Value → Shared → Prop}
    (he : s.heap.get? e = some (enumObj (rawInt T) (.bool b) it i old)) (hT : s.heap.get? T = some oT) (hit : s.heap.IsListIter it l i) (hl : s.heap.IsList l items) (hx : items[i]? = some x) (hne : e ≠ it) (hTe : T ≠ e) (hTi : T ≠ it)
    (hQ : ∀ h', h'.get? e = some (enumObj (rawInt T) (.bool true) it ((i : Int) + 1) old) → h'.IsListIter it l (i + 1) →
      h'.get? s.heap.objs.size = some { cls := .type "tuple", data := .seq #[.int i s.toks, x] } → (∀ b o, b ≠ e → b ≠ it → s.heap.get? b = some o → h'.get? b = some o) → Q (.ref s.heap.objs.size) { s with heap := h', toks := s.toks + 1 }) :
    wpAny (model prog w) A (Builtin.«enumerate.__next__» ⟨[.ref e], []⟩) (fun fin s' => ∃ v, fin = .done (.ret v) ∧ Q v s') E s := by
  obtain ⟨hp, g, d, tk, os⟩ := s
  have step : ∀ {h h' : Heap} {a : Addr} {o : Obj}, Heap.SameBut a h h' → ∀ c, c ≠ a → h.get? c = some o → h'.get? c = some o := fun hs c hc x => (hs.2 c hc).trans x
  show wpAny _ _ (field (.ref e) 2 >>= _) _ _ _
  refine wpAny_bind (wpAny_field he rfl (x := .ref it) rfl ?_)
  refine wpAny_bind (wpAny_nextOf_list_item hit hl hx fun h1 hit1 hs1 => ?_)
  have e1 : h1.get? e = some (enumObj (rawInt T) (.bool b) it i old) := step hs1 _ hne he
  refine wpAny_bind (wpAny_field e1 rfl (x := rawInt i) rfl ?_)
  show wpAny _ _ (field (.ref e) 4 >>= _) _ _ ⟨h1, g, d, tk, os⟩
  refine wpAny_bind (wpAny_field e1 rfl (x := .none) rfl ?_)
  show wpAny _ _ (mkInt i >>= _) _ _ ⟨h1, g, d, tk, os⟩
  refine wpAny_bind (wpAny_mkInt ?_)
  show wpAny _ _ (setField (.ref e) 3 (rawInt ((i : Int) + 1)) >>= _) _ _ ⟨h1, g, d, tk + 1, os⟩
  refine wpAny_bind (wpAny_setField_rec e1 (by simp) fun h2 e2 hs2 => ?_)
  replace e2 : h2.get? e = some (enumObj (rawInt T) (.bool b) it ((i : Int) + 1) old) := e2
  show wpAny _ _ (setField (.ref e) 4 .none >>= _) _ _ ⟨h2, g, d, tk + 1, os⟩
  refine wpAny_bind (wpAny_setField_rec e2 (by simp) fun h3 e3 hs3 => ?_)
  replace e3 : h3.get? e = some (enumObj (rawInt T) (.bool b) it ((i : Int) + 1) old) := e3
  show wpAny _ _ (newTuple [.int i tk, x] >>= _) _ _ ⟨h3, g, d, tk + 1, os⟩
  refine wpAny_bind (wpAny_newTuple ?_)
  have hsz : h3.objs.size = hp.objs.size := by rw [hs3.1, hs2.1, hs1.1]
  have hel : e < hp.objs.size := Heap.lt_size he
  have key3 : ∀ c o, c ≠ e → c ≠ it → hp.get? c = some o → h3.get? c = some o := fun c o c1 c2 y => step hs3 c c1 (step hs2 c c1 (step hs1 c c2 y))
  have e4 : (h3.push { cls := .type "tuple", data := .seq #[.int i tk, x] }).get? e = some (enumObj (rawInt T) (.bool b) it ((i : Int) + 1) old) := Heap.get?_push_of_some _ e3
  have T4 : (h3.push { cls := .type "tuple", data := .seq #[.int i tk, x] }).get? T = some oT := Heap.get?_push_of_some _ (key3 T oT hTe hTi hT)
  have N4 : (h3.push { cls := .type "tuple", data := .seq #[.int i tk, x] }).get? hp.objs.size = some { cls := .type "tuple", data := .seq #[.int i tk, x] } := by rw [← hsz]; exact Heap.get?_push_size _ rfl
  have I4 : (h3.push { cls := .type "tuple", data := .seq #[.int i tk, x] }).IsListIter it l (i + 1) := by
    obtain ⟨o, ho, r⟩ := hit1
    exact ⟨o, Heap.get?_push_of_some _ (step hs3 _ (Ne.symm hne) (step hs2 _ (Ne.symm hne) ho)), r⟩
  have key4 : ∀ c o, c ≠ e → c ≠ it → hp.get? c = some o → (h3.push { cls := .type "tuple", data := .seq #[.int i tk, x] }).get? c = some o := fun c o c1 c2 y => Heap.get?_push_of_some _ (key3 c o c1 c2 y)
  rw [hsz]
  generalize h3.push { cls := .type "tuple", data := .seq #[.int i tk, x] } = h4 at e4 T4 N4 I4 key4
  show wpAny _ _ (Builtin.SmallTypes.ownedTupleIsFree (.ref e) >>= _) _ _ ⟨h4, g, d, tk + 1, os⟩
  refine wpAny_bind (wpAny_mono (Q := fun r s' => r = false ∧ ∃ h5, s' = ⟨h5, g, d, tk + 1, os⟩ ∧ h5.get? e = some (enumObj (rawInt T) (.bool true) it ((i : Int) + 1) old) ∧ (∀ c o, c ≠ e → h4.get? c = some o → h5.get? c = some o)) (E := fun _ _ => False) ?_ ?_ fun _ _ z => z.elim)
  · unfold Builtin.SmallTypes.ownedTupleIsFree
    refine wpAny_bind (wpAny_field e4 rfl (x := rawInt T) rfl ?_)
    show wpAny _ _ (loadIfAlive (T : Int).toNat >>= _) _ _ _
    refine wpAny_bind (wpAny_loadIfAlive ?_)
    show wpAny _ _ (if (h4.get? (T : Int).toNat).isNone = true then _ else _) _ _ _
    rw [Int.toNat_natCast, T4, if_neg (by simp)]
    refine wpAny_bind (wpAny_field e4 rfl (x := .bool b) rfl ?_)
    cases b with
    | true =>
      rw [if_neg (by simp)]
      exact wpAny_pure ⟨rfl, h4, rfl, e4, fun _ _ _ y => y⟩
    | false =>
      rw [if_pos (by simp)]
      refine wpAny_bind (wpAny_setField_rec e4 (by simp) fun h5 e5 hs5 => ?_)
      exact wpAny_pure ⟨rfl, h5, rfl, e5, fun c o hc y => step hs5 c hc y⟩
  · rintro r s' ⟨rfl, h5, rfl, e5, k5⟩
    rw [if_neg Bool.false_ne_true]
    refine wpAny_pure ⟨_, rfl, hQ h5 e5 ?_ (k5 _ _ (Nat.ne_of_gt hel) N4) (fun c o c1 c2 y => k5 c o c1 (key4 c o c1 c2 y))⟩
    obtain ⟨o, ho, r⟩ := I4
    exact ⟨o, k5 _ _ (Ne.symm hne) ho, r⟩
end

-- AN ATTRIBUTE THAT AN ENUMERATE LACKS
theorem enum_no_getattr : typeLookup (.type "enumerate") "__getattr__" = pure none := by rw [typeLookup_type, builtinLookup_eq_fast]; kernel_rfl
theorem enum_no_keys : typeLookup (.type "enumerate") (Str.ofString "keys") = pure none := by rw [typeLookup_type, builtinLookup_eq_fast]; kernel_rfl
theorem entry_enum_ga : entryFor table "enumerate.__getattribute__" = some Builtin.«object.__getattribute__» :=
  entryFor_alias (id' := "object.__getattribute__") (by kernel_rfl) (by decide +kernel) (by decide +kernel) (by kernel_rfl)
theorem meets_enum_miss (a : Addr) (fs : Array Value) (u : Tok) :
    Meets (Builtin.«object.__getattribute__» ⟨[.ref a, .str (Str.ofString "keys") u], []⟩) (fun A R s => s.heap.get? a = some { cls := .type "enumerate", dict := none, data := .fields fs, slots := #[] } ∧ raisesAttr (.ref a) (Str.ofString "keys") A R s) :=
  Meets.of_wp fun prog w A R s hs => by
    obtain ⟨hp, g, d, tk, os⟩ := s
    obtain ⟨hx, hs⟩ := hs
    have hT : (⟨hp, g, d, tk, os⟩ : Shared).TypeIs (.ref a) "enumerate" := ⟨_, hx, rfl⟩
    have hmiss := enum_no_keys
    have hname : (["__module__", "__name__", "__qualname__", "__doc__", "__annotations__"] : List Str).contains (Str.ofString "keys") = false := by decide +kernel
    unfold Builtin.«object.__getattribute__»
    repeat (any_goals (first | assumption | wp_step))
    exact wpAny_raiseAttrError hs.1 hs.2 (by size_fits)

section
variable {prog : Program} {w : World} {A : Around} {σ s : Shared} {G : Array GenState → Prop} {L L' R : List Cell} {env : Env}
theorem enum_getattr_keys {a : Addr} {fs : Array Value} {Q : Option Value → Shared → Prop} {E : Value → Shared → Prop} (hA : A.handled = none) (hx : s.heap.get? a = some { cls := .type "enumerate", dict := none, data := .fields fs, slots := #[] })
    (h : ∀ h' tk, (∀ b o, s.heap.get? b = some o → h'.get? b = some o) → Q none { s with heap := h', toks := tk }) : wpAny (model prog w) A (getAttr? (.ref a) (Str.ofString "keys")) Q E s := by
  obtain ⟨hp, g, d, tk, os⟩ := s
  have hT : ∀ tk', (⟨hp, g, d, tk', os⟩ : Shared).TypeIs (.ref a) "enumerate" := fun _ => ⟨_, hx, rfl⟩
  have f1 := sub_AttributeError
  have f3 := PySem.F.slot_enumerate_getattribute.lookup
  have f4 := PySem.F.slot_enumerate_getattribute.bind (.ref a)
  have f5 := enum_no_getattr
  unfold getAttr? getAttrBy? getAttrBy
  repeat (any_goals (first | assumption | exact hT _ | ((with_reducible show wpAny _ _ (call (Value.builtin "enumerate.__getattribute__") _ _) _ _ _); refine call_meets PySem.F.slot_enumerate_getattribute (hT _) entry_enum_ga (PySem.F.args_enumerate_getattribute_2 _ _) (meets_enum_miss a fs _) ⟨hx, hA, fun h' tk' e hx' => ?_⟩) | wp_step))
  obtain ⟨t', u', he⟩ := hx'.there
  show wpAny _ _ (getattributeRaised _ _ _ _ _ _ _) _ _ _
  unfold getattributeRaised
  repeat (any_goals (first | assumption | wp_step))
  exact h _ _ hx'.keeps
end
end Mine

namespace Mine
open PySem PySem.W PySem.Calls PyProof.Rows

def enumPts (ns : List Int) : List (Int × Int) := ns.zipIdx.map fun p => ((p.2 : Int), p.1)
theorem enumPts_snoc (ns : List Int) (n : Int) : enumPts (ns ++ [n]) = enumPts ns ++ [((ns.length : Int), n)] := by
  unfold enumPts
  rw [List.zipIdx_append, List.map_append]
  simp
theorem enumPts_keys (ns : List Int) : (enumPts ns).map (·.1) = (List.range ns.length).map (fun (i : Nat) => (i : Int)) := by
  unfold enumPts
  rw [List.map_map]
  have : (fun p : Int × Nat => (p.2 : Int)) = (fun (i : Nat) => (i : Int)) ∘ Prod.snd := rfl
  show ns.zipIdx.map (fun p : Int × Nat => (p.2 : Int)) = _
  rw [this, ← List.map_map, List.zipIdx_map_snd]
  rw [List.range_eq_range']
theorem enumPts_len (ns : List Int) : (enumPts ns).length = ns.length := by simp [enumPts]
theorem enumPts_new (ns : List Int) : ((ns.length : Nat) : Int) ∉ (enumPts ns).map (·.1) := by
  rw [enumPts_keys]
  intro h
  obtain ⟨i, hi, e⟩ := List.mem_map.mp h
  have := List.mem_range.mp hi
  omega

theorem entry_upd_loop : entryFor table "dict.update.loop" = some Builtin.«dict.update.loop» := entryFor_of_tree (by kernel_rfl)
theorem plain_upd_loop : plainId "dict.update.loop" = true := by decide +kernel

section
variable {prog : Program} {w : World} {A : Around} {σ s : Shared} {G : Array GenState → Prop} {L L' R : List Cell} {env : Env}

theorem T_pairItems {T : Addr} {vs : List Value} {Q : List Value → Shared → Prop} (h : St σ G L s) (hT : (T, tup vs) ∈ L) (k : Q vs s) : W prog w A (Builtin.Dict.pairItems (.ref T)) Q s := by
  obtain ⟨o, ho, n, rfl⟩ := h.get hT
  unfold Builtin.Dict.pairItems
  refine wpAny_bind (wpAny_typeOf ⟨_, ho, rfl⟩ ?_)
  rw [if_pos (by decide)]
  refine wpAny_bind (wpAny_seqItems ho rfl ?_)
  exact wpAny_pure k

def updI (prog : Program) (w : World) (e it l d : Addr) (ns : List Int) (R : List Cell) (i : Nat) (L : List Cell) : Prop :=
  (i = 0 ∧ L = (e, enm it 0) :: (it, lit l 0) :: (l, ils ns) :: (d, dci prog w []) :: R) ∨ (∃ T b, L = (e, enmO it T b i) :: (T, fun _ => True) :: (it, lit l i) :: (l, ils ns) :: (d, dci prog w (enumPts (ns.take i))) :: R)

theorem upd_next {e it l d : Addr} {ns : List Int} {i : Nat} {n : Int} (hI : updI prog w e it l d ns R i L) (hi : ns[i]? = some n) (h : St σ G L s) {Q : Option Value → Shared → Prop}
    (k : ∀ T T' b t u X s', (X = [] ∧ T = T' ∨ X = [(T, fun _ => True)]) → St σ G ((T', tup [.int i t, .int n u]) :: (e, enmO it T b (i + 1 : Nat)) :: (X ++ ((it, lit l (i + 1)) :: (l, ils ns) :: (d, dci prog w (enumPts (ns.take i))) :: R))) s' → Q (some (.ref T')) s') : W prog w A (pyNext (.ref e)) Q s := by
  rcases hI with ⟨rfl, rfl⟩ | ⟨T, b, rfl⟩
  · obtain ⟨vs, n1, hv, q1⟩ := h.ilist (l := l) (ns := ns) (.tail _ (.tail _ (.head _)))
    obtain ⟨u, hu⟩ := hv.get _ _ hi
    obtain ⟨oe, hoe, old, rfl⟩ := h.get (a := e) (.head _)
    have hne : e ≠ it := h.apart (i := 0) (j := 1) rfl rfl (by decide)
    refine wpAny_pyNext_enum_item (i := 0) hoe (h.isLit (.tail _ (.head _))) q1.isList (by rw [List.getElem?_toArray]; exact hu) hne (fun h' b1 b2 b3 _ bk => k _ s.heap.objs.size false s.toks u [] _ (.inl ⟨rfl, rfl⟩) ?_)
    have hp : St σ G ([(e, enm it 0), (it, lit l 0)] ++ ((l, ils ns) :: (d, dci prog w []) :: R)) s := h
    have hf := hp.turnNew (W' := [(e, enmO it s.heap.objs.size false 1), (it, lit l 1)]) (New := [(s.heap.objs.size, tup [.int (0 : Nat) s.toks, .int n u])]) (h' := h') (t := s.toks + 1) rfl
      (fun b o hb y => by
        simp only [List.map_cons, List.map_nil, List.mem_cons, List.not_mem_nil, or_false, not_or] at hb
        exact bk b o hb.1 hb.2 y)
      (fun p hp => by
        simp only [List.mem_cons, List.not_mem_nil, or_false] at hp
        rcases hp with rfl | rfl
        · exact ⟨_, b1, _, rfl⟩
        · obtain ⟨o, ho, r⟩ := b2; exact ⟨o, ho, r⟩)
      (fun p hp => by rw [List.mem_singleton.mp hp]; exact ⟨Nat.le_refl _, _, b3, 0, rfl⟩) (by simp)
    exact hf.re
  · obtain ⟨vs, n1, hv, q1⟩ := h.ilist (l := l) (ns := ns) (.tail _ (.tail _ (.tail _ (.head _))))
    obtain ⟨u, hu⟩ := hv.get _ _ hi
    obtain ⟨oe, hoe, old, rfl⟩ := h.get (a := e) (.head _)
    obtain ⟨oT, hoT, _⟩ := h.get (a := T) (P := fun _ => True) (.tail _ (.head _))
    have hne : e ≠ it := h.apart (i := 0) (j := 2) rfl rfl (by decide)
    have hTe : T ≠ e := h.apart (i := 1) (j := 0) rfl rfl (by decide)
    have hTi : T ≠ it := h.apart (i := 1) (j := 2) rfl rfl (by decide)
    have hty : s.TypeIs (.ref e) "enumerate" := ⟨_, hoe, rfl⟩
    unfold pyNext
    refine wpAny_bind (wpAny_attempt (wpAny_callSpecial?_slot (name := Str.ofString "__next__") hty PySem.F.slot_enumerate_next
      (wpAny_call_entry PySem.F.slot_enumerate_next hty PySem.F.entry_enumerate_next
        (enum_next_out hoe hoT (h.isLit (.tail _ (.tail _ (.head _)))) q1.isList (by rw [List.getElem?_toArray]; exact hu) hne hTe hTi fun h' b1 b2 b3 bk => wpAny_pure (k T s.heap.objs.size true s.toks u [(T, fun _ => True)] _ (.inr rfl) ?_)) (PySem.F.args_enumerate_next_1 _))))
    have hp : St σ G ([(e, enmO it T b i), (it, lit l i)] ++ ((T, fun _ => True) :: (l, ils ns) :: (d, dci prog w (enumPts (ns.take i))) :: R)) s := h.re
    have hf := hp.turnNew (W' := [(e, enmO it T true (i + 1 : Nat)), (it, lit l (i + 1))]) (New := [(s.heap.objs.size, tup [.int i s.toks, .int n u])]) (h' := h') (t := s.toks + 1) rfl
      (fun b o hb y => by
        simp only [List.map_cons, List.map_nil, List.mem_cons, List.not_mem_nil, or_false, not_or] at hb
        exact bk b o hb.1 hb.2 y)
      (fun p hp => by
        simp only [List.mem_cons, List.not_mem_nil, or_false] at hp
        rcases hp with rfl | rfl
        · exact ⟨_, b1, _, rfl⟩
        · obtain ⟨o, ho, r⟩ := b2; exact ⟨o, ho, r⟩)
      (fun p hp => by rw [List.mem_singleton.mp hp]; exact ⟨Nat.le_refl _, _, b3, 0, rfl⟩) (by simp)
    refine hf.re (e := ?_)
    intro a; simp only [cnt_cons, cnt_app, cnt_nil, Nat.zero_add, Nat.add_zero]
    simp only [Nat.add_comm, Nat.add_left_comm, Nat.add_assoc]

/-- enumerate's own step, where the list has no more: it raises a StopIteration -/
theorem enum_stops {e it l T : Addr} {b : Bool} {i : Nat} {items : Array Value} {old : Value} (alone : A.handled = none) (isEnum : s.heap.get? e = some (enumObj (rawInt T) (.bool b) it i old)) (isIter : s.heap.IsListIter it l i) (isList : s.heap.IsList l items) (over : items[i]? = none) :
    wpAny (model prog w) A.in1 (Builtin.«enumerate.__next__» ⟨[.ref e], []⟩) (fun _ _ => False) (fun x s' => ∃ h' a o, s' = { s with heap := h' } ∧ x = .ref a ∧ Heap.ExtBut it s.heap h' ∧ h'.get? a = some o ∧ o.cls = .type "StopIteration") s := by
  have inner : wpAny (model prog w) A.in1 (field (.ref e) 2) (fun x s' => x = .ref it ∧ s' = s) (fun _ _ => False) s := wpAny_field isEnum rfl (x := .ref it) rfl ⟨rfl, rfl⟩
  refine wpAny_bind (m := field (.ref e) 2) (wpAny_mono inner ?_ (fun _ _ no => no.elim))
  rintro _ _ ⟨rfl, rfl⟩
  exact wpAny_bind (wpAny_nextOf_list_end alone isIter isList over (fun h' a bk ⟨o, at_, cls⟩ => ⟨h', a, o, rfl, rfl, bk, at_, cls⟩))
theorem enum_over {e it l T : Addr} {b : Bool} {i : Nat} {items : Array Value} {old : Value} {Q : Option Value → Shared → Prop} {E : Value → Shared → Prop} (alone : A.handled = none)
    (isEnum : s.heap.get? e = some (enumObj (rawInt T) (.bool b) it i old)) (isIter : s.heap.IsListIter it l i) (isList : s.heap.IsList l items) (over : items[i]? = none)
    (k : ∀ h', Heap.ExtBut it s.heap h' → Q none { s with heap := h' }) : wpAny (model prog w) A (pyNext (.ref e)) Q E s := by
  have ty : s.TypeIs (.ref e) "enumerate" := ⟨_, isEnum, rfl⟩
  have stops := enum_stops (prog := prog) (w := w) alone isEnum isIter isList over
  unfold pyNext
  refine wpAny_bind (wpAny_attempt (wpAny_callSpecial?_slot (name := Str.ofString "__next__") ty PySem.F.slot_enumerate_next (wpAny_call_entry PySem.F.slot_enumerate_next ty PySem.F.entry_enumerate_next
    (wpAny_mono stops (fun _ _ no => no.elim) ?_) (PySem.F.args_enumerate_next_1 _))))
  rintro _ _ ⟨h', a, o, rfl, rfl, bk, at_, cls⟩
  exact wpAny_bind (wpAny_isInstance (T := "StopIteration") (b := true) ⟨o, at_, cls⟩ isSubtype_stop (wpAny_pure (k h' bk)))

theorem upd_end {e it l d : Addr} {ns : List Int} (hA : A.handled = none) (hI : updI prog w e it l d ns R ns.length L) (h : St σ G L s) {Q : Option Value → Shared → Prop}
    (k : ∀ s', St σ G ((d, dci prog w (enumPts ns)) :: (l, ils ns) :: R) s' → Q none s') : W prog w A (pyNext (.ref e)) Q s := by
  rcases hI with ⟨e0, rfl⟩ | ⟨T, b, rfl⟩
  · obtain ⟨vs, n1, hv, q1⟩ := h.ilist (l := l) (ns := ns) (.tail _ (.tail _ (.head _)))
    obtain ⟨oe, hoe, old, rfl⟩ := h.get (a := e) (.head _)
    have hl0 := hv.length
    refine wpAny_pyNext_enum_end (i := 0) hA hoe (h.isLit (.tail _ (.head _))) q1.isList (by rw [List.getElem?_toArray, List.getElem?_eq_none]; omega) (fun h' bk => k _ ?_)
    have hns : ns = [] := List.eq_nil_of_length_eq_zero e0
    subst hns
    have hp : St σ G ([(e, enm it 0), (it, lit l 0)] ++ ((l, ils []) :: (d, dci prog w []) :: R)) s := h
    have h2 : St σ G ((l, ils []) :: (d, dci prog w []) :: R) _ := hp.lose (h' := h') (t := s.toks) (fun b o hb y => by
      simp only [List.map_cons, List.map_nil, List.mem_cons, List.not_mem_nil, or_false, not_or] at hb
      exact bk b o hb.2 y)
    exact St.re (L := (l, ils []) :: (d, dci prog w []) :: R) h2
  · obtain ⟨vs, n1, hv, q1⟩ := h.ilist (l := l) (ns := ns) (.tail _ (.tail _ (.tail _ (.head _))))
    obtain ⟨oe, hoe, old, rfl⟩ := h.get (a := e) (.head _)
    have hl0 := hv.length
    refine enum_over (i := ns.length) hA hoe (h.isLit (.tail _ (.tail _ (.head _)))) q1.isList (by rw [List.getElem?_toArray, List.getElem?_eq_none]; omega) (fun h' bk => k _ ?_)
    rw [List.take_length] at h
    have hp : St σ G ([(e, enmO it T b ns.length), (T, fun _ => True), (it, lit l ns.length)] ++ ((d, dci prog w (enumPts ns)) :: (l, ils ns) :: R)) s := h.re
    exact hp.lose (h' := h') (t := s.toks) (fun b o hb y => by
      simp only [List.map_cons, List.map_nil, List.mem_cons, List.not_mem_nil, or_false, not_or] at hb
      exact bk b o hb.2.2 y)

theorem upd_loop {e it l d : Addr} {ns : List Int} (hz : ns.length ≤ 100) {Q : Flow → Shared → Prop} (k : ∀ s', St σ G ((d, dci prog w (enumPts ns)) :: (l, ils ns) :: R) s' → Q (.ret .none) s') :
    ∀ (m i : Nat) (A : Around) (L : List Cell) (s : Shared), A.handled = none → i + m = ns.length → updI prog w e it l d ns R i L → St σ G L s → C prog w A (.builtin "dict.update.loop" ⟨[.ref d, .ref e, rawInt i, .none], []⟩) Q s := by
  intro m
  induction m with
  | zero =>
    intro i A L s hA hi hI h
    obtain rfl : i = ns.length := by omega
    refine codeAny_builtin entry_upd_loop ?_
    rw [Around.under_plainId plain_upd_loop _]
    unfold Builtin.«dict.update.loop»
    refine wpAny_bind (W.any (upd_end (A := A.in1) hA hI h (fun s' h' => ?_)))
    show wpAny _ _ (Builtin.Dict.addKeywords d [] >>= _) _ _ _
    exact wpAny_bind (wpAny_pure (wpAny_pure (k s' h')))
  | succ m ih =>
    intro i A L s hA hi hI h
    have hni : ns[i]? = some ns[i] := List.getElem?_eq_getElem (by omega)
    refine codeAny_builtin entry_upd_loop ?_
    rw [Around.under_plainId plain_upd_loop _]
    unfold Builtin.«dict.update.loop»
    refine wpAny_bind (W.any (upd_next (A := A.in1) hI hni h (fun T T' b t u X s' hX h => ?_)))
    dsimp only
    refine wpAny_bind (wpAny_holding (wpAny_bind ?_))
    refine wpAny_tryCatch ?_
    refine wpAny_mono (T_pairItems h (.head _) (Q := fun r s₁ => r = [.int i t, .int ns[i] u] ∧ s₁ = s') ⟨rfl, rfl⟩) ?_ (fun _ _ z => z.elim)
    rintro r s₁ ⟨rfl, rfl⟩
    dsimp only
    have htl : (ns.take i).length = i := by rw [List.length_take]; omega
    have ht : ns.take (i + 1) = ns.take i ++ [ns[i]] := by rw [List.take_add_one, hni]; rfl
    have hnew := enumPts_new (ns.take i)
    rw [htl] at hnew
    have hsn := enumPts_snoc (ns.take i) ns[i]
    rw [htl, ← ht] at hsn
    refine wpAny_holding (W.any (K_dictNew (D := d) (ind := enumPts (ns.take i)) h (by repeat (first | exact Put.here | apply Put.there | apply put_skip)) hnew (by rw [enumPts_len]; omega) (fun s₂ h => ?_)))
    · rw [← hsn] at h
      refine wpAny_pure ⟨plainId_quiet plain_upd_loop _, ?_⟩
      have hI' : ∃ L', updI prog w e it l d ns R (i + 1) L' ∧ St σ G L' s₂ := by
        rcases hX with ⟨hx0, hTT⟩ | rfl
        · subst hx0
          subst hTT
          refine ⟨_, .inr ⟨T, b, rfl⟩, ?_⟩
          have h := h.weaken (P' := fun _ => True) (fun _ _ => trivial)
          exact h.re
        · refine ⟨_, .inr ⟨T, b, rfl⟩, ?_⟩
          exact h.sub (List.sublist_cons_self _ _)
      obtain ⟨L', hI', hS'⟩ := hI'
      have := ih (i + 1) A L' s₂ hA (by omega) hI' hS'
      exact this
end
end Mine

namespace Mine
open PySem PySem.W PySem.Calls PyProof.Rows

section
variable {prog : Program} {w : World} {A : Around} {σ s : Shared} {G : Array GenState → Prop} {L L' R : List Cell} {env : Env}

/-- dict(enumerate(ints)) -/
theorem D_callEnum {e it l : Addr} {ns : List Int} {Q : Value → Shared → Prop} (hA : A.handled = none) (hz : ns.length ≤ 100)
    (h : St σ G ((e, enm it 0) :: (it, lit l 0) :: (l, ils ns) :: R) s) (k : ∀ d s', St σ G ((d, dci prog w (enumPts ns)) :: (l, ils ns) :: R) s' → Q (.ref d) s') : W prog w A (call (.type "dict") [.ref e]) Q s := by
  refine callType_codes (Q₁ := fun obj s₁ => obj = .ref s.heap.objs.size ∧ s₁ = { s with heap := s.heap.push { cls := .type "dict", data := .dict #[] } }) PySem.F.kt_called_dict (PySem.F.kt_typeCall_dict_1 _) PySem.F.entry_dict_init (kt_code_dict_new _ ⟨rfl, rfl⟩) ?_
  rintro obj s₁ ⟨rfl, rfl⟩
  have hnew : (s.heap.push { cls := .type "dict", data := .dict #[] }).DictOf (PySem.intKind prog w) s.heap.objs.size [] := Heap.DictOf.new s.heap
  refine ⟨hnew.typeIs, PySem.F.args_dict_init_2 _ _, ?_⟩
  have h0 := h.push (t := s.toks) (P := dci prog w []) (o := { cls := .type "dict", data := .dict #[] }) rfl (dci_nil dct_nil)
  have hS : St σ G ((e, enm it 0) :: (it, lit l 0) :: (l, ils ns) :: (s.heap.objs.size, dci prog w []) :: R) { s with heap := s.heap.push { cls := .type "dict", data := .dict #[] } } := by
    have : St σ G ((s.heap.objs.size, dci prog w []) :: (e, enm it 0) :: (it, lit l 0) :: (l, ils ns) :: R) { s with heap := s.heap.push { cls := .type "dict", data := .dict #[] } } := h0
    exact this.re
  generalize hs1 : ({ s with heap := s.heap.push { cls := .type "dict", data := .dict #[] } } : Shared) = s1 at hS
  obtain ⟨oe, hoe, old, rfl⟩ := hS.get (a := e) (.head _)
  unfold Builtin.«dict.__init__»
  refine wpAny_bind ?_
  unfold Builtin.Dict.selfAndRest
  refine wpAny_bind (wpAny_notOrdered_dict (by rw [← hs1]; exact hnew.typeIs) ?_)
  show wpAny _ _ (pure (s.heap.objs.size, [Value.ref e])) _ _ _
  refine wpAny_pure ?_
  show wpAny _ _ (Builtin.Dict.updateFrom "dict.__init__" s.heap.objs.size (.ref e) [] .none) _ _ _
  unfold Builtin.Dict.updateFrom
  have hTe : s1.TypeIs (.ref e) "enumerate" := ⟨_, hoe, rfl⟩
  refine wpAny_bind (wpAny_typeOf hTe ?_)
  rw [if_pos (by decide)]
  refine wpAny_bind (enum_getattr_keys hA hoe (fun h' tk hk => ?_))
  rw [show (none : Option Value).isNone = true from rfl, if_pos rfl]
  refine wpAny_bind (wpAny_rule ?_)
  have hS2 := hS.keeps (t := tk) hk
  refine wpAny_bind (W.any (T_iterEnm (it := it) (i := 0) hS2 ?_ (hr := .head _)))
  refine wpAny_pure ⟨plainId_quiet plain_upd_loop _, ?_⟩
  have := upd_loop (prog := prog) (w := w) (d := s.heap.objs.size) hz (Q := fun f s' => match f with | .ret v => v = .none ∧ Q (.ref s.heap.objs.size) s' | _ => False) (fun s' h' => ⟨rfl, k _ s' h'⟩) ns.length 0 A.in1 _ _ hA (by omega) (.inl ⟨rfl, rfl⟩) hS2
  refine codeAny_mono this (fun r s' z => ?_)
  rcases r with e | (v | _ | _ | _) <;> first | exact z.elim | exact z
end
end Mine

namespace Mine
open PySem PySem.W PySem.Calls PyProof.Rows PySem.SeqAt

def intsD (r : List Int) : PyData := .list (r.map .int)
def llD (rows : List (List Int)) : PyData := .list (rows.map intsD)
def ttD (rows pls : List (List Int)) : PyData := .tuple [llD rows, llD pls]

theorem lay_intsAll : ∀ r : List Int, PyData.canLayAll0 (r.map .int) = true
  | [] => rfl
  | x :: r => by
    have ih := lay_intsAll r
    simp only [List.map_cons, PyData.canLayAll0, ih, Bool.and_true]; rfl
theorem lay_ints (r : List Int) : (intsD r).canLay0 = true := lay_intsAll r
theorem lay_llAll : ∀ rows : List (List Int), PyData.canLayAll0 (rows.map intsD) = true
  | [] => rfl
  | r :: rows => by
    have ih := lay_llAll rows
    simp only [List.map_cons, PyData.canLayAll0, ih, lay_ints, Bool.and_self]
theorem lay_ll (rows : List (List Int)) : (llD rows).canLay0 = true := lay_llAll rows
theorem lay_tt (rows pls : List (List Int)) : (ttD rows pls).canLay0 = true := by
  show PyData.canLayAll0 [llD rows, llD pls] = true
  simp only [PyData.canLayAll0, lay_ll, Bool.and_self]
theorem dep_intsAll : ∀ r : List Int, PyData.depthAll (r.map .int) ≤ 1
  | [] => by simp [PyData.depthAll]
  | x :: r => by
    have ih := dep_intsAll r
    simp only [List.map_cons, PyData.depthAll, PyData.depth]
    omega
theorem dep_ints (r : List Int) : (intsD r).depth ≤ 2 := by
  have := dep_intsAll r
  unfold intsD
  simp only [PyData.depth]; omega
theorem dep_llAll : ∀ rows : List (List Int), PyData.depthAll (rows.map intsD) ≤ 2
  | [] => by simp [PyData.depthAll]
  | r :: rows => by
    have ih := dep_llAll rows
    have := dep_ints r
    simp only [List.map_cons, PyData.depthAll]
    omega
theorem dep_ll (rows : List (List Int)) : (llD rows).depth ≤ 3 := by
  have := dep_llAll rows
  unfold llD
  simp only [PyData.depth]; omega
theorem dep_tt (rows pls : List (List Int)) : (ttD rows pls).depth ≤ 5 := by
  have h1 := dep_ll rows
  have h2 := dep_ll pls
  unfold ttD
  simp only [PyData.depth, PyData.depthAll]; omega

theorem reads_intsAll {h : Heap} {vs : List Value} {ns : List Int} (hv : IntsAre vs ns) : ReadsAll h vs (ns.map .int) [] := by
  induction hv with
  | nil => exact .nil
  | cons n u _ ih => exact ReadsAll.cons (as := []) (bs := []) (.int n u) ih

section
variable {prog : Program} {w : World} {A : Around} {σ s : Shared} {G : Array GenState → Prop} {L L' R : List Cell} {env : Env}

theorem reads_ils {a : Addr} {r : List Int} (h : St σ G L s) (hm : (a, ils r) ∈ L) : Reads s.heap (.ref a) (intsD r) [a] := by
  obtain ⟨o, ho, vs, hv, n, rfl⟩ := h.get hm
  exact .list ho rfl rfl (reads_intsAll hv)
theorem reads_segAll (h : St σ G L s) : ∀ {as : List Addr} {rows : List (List Int)}, as.length = rows.length → (∀ c ∈ seg as rows, c ∈ L) → ∃ ads, ReadsAll s.heap (as.map .ref) (rows.map intsD) ads
  | [], [], _, _ => ⟨[], .nil⟩
  | a :: as, r :: rows, hl, hm => by
    obtain ⟨ads, hr⟩ := reads_segAll h (as := as) (rows := rows) (by simpa using hl) (fun c hc => hm c (.tail _ hc))
    exact ⟨_, .cons (reads_ils h (hm (a, ils r) (.head _))) hr⟩
theorem reads_ll {a : Addr} {as : List Addr} {rows : List (List Int)} (h : St σ G L s) (ha : (a, lst (as.map .ref)) ∈ L) (hl : as.length = rows.length) (hm : ∀ c ∈ seg as rows, c ∈ L) : ∃ ads, Reads s.heap (.ref a) (llD rows) ads := by
  obtain ⟨o, ho, n, rfl⟩ := h.get ha
  obtain ⟨ads, hr⟩ := reads_segAll h hl hm
  exact ⟨_, .list ho rfl rfl hr⟩
theorem reads_tt {t ra pa : Addr} {as bs : List Addr} {rows pls : List (List Int)} (h : St σ G L s) (ht : (t, tup [.ref ra, .ref pa]) ∈ L) (h1 : (ra, lst (as.map .ref)) ∈ L) (h2 : (pa, lst (bs.map .ref)) ∈ L) (l1 : as.length = rows.length) (l2 : bs.length = pls.length)
    (m1 : ∀ c ∈ seg as rows, c ∈ L) (m2 : ∀ c ∈ seg bs pls, c ∈ L) : ∃ ads, Reads s.heap (.ref t) (ttD rows pls) ads := by
  obtain ⟨o, ho, n, rfl⟩ := h.get ht
  obtain ⟨x, hx⟩ := reads_ll h h1 l1 m1
  obtain ⟨y, hy⟩ := reads_ll h h2 l2 m2
  exact ⟨_, .tuple ho rfl rfl (.cons hx (.cons hy .nil))⟩
theorem T_neSame {a b : Value} {rows pls : List (List Int)} {xs ys : List Addr} {Q : Value → Shared → Prop} (ra : Reads s.heap a (ttD rows pls) xs) (rb : Reads s.heap b (ttD rows pls) ys) (hu : A.units + 64 < cLine) (k : Q (.bool false) s) : W prog w A (compareOp .NotEq a b) Q s := by
  refine compareNe_reads ra rb (lay_tt _ _) (lay_tt _ _) ?_ ?_
  · have := dep_tt rows pls; omega
  · rw [eqv_refl _ (lay_tt _ _)]; exact k
theorem T_eqSame {a b : Value} {rows pls : List (List Int)} {xs ys : List Addr} {Q : Value → Shared → Prop} (ra : Reads s.heap a (ttD rows pls) xs) (rb : Reads s.heap b (ttD rows pls) ys) (hu : A.units + 64 < cLine) (k : Q (.bool true) s) : W prog w A (compareOp .Eq a b) Q s := by
  refine compareEq_reads ra rb (lay_tt _ _) (lay_tt _ _) ?_ ?_
  · have := dep_tt rows pls; omega
  · rw [eqv_refl _ (lay_tt _ _)]; exact k
end
end Mine

namespace Mine
open PySem PySem.W PySem.Calls PyProof.Rows

section
variable {prog : Program} {w : World} {A : Around} {σ s : Shared} {G : Array GenState → Prop} {L L' : List Cell} {env : Env} {K : Frag}
theorem c_compare {l r : Expr} {op : CmpOp} {pos : Pos} {Q : Value → Shared → Prop}
    (k : Wc prog w A (eval l env) (fun a s₁ => Wc prog w A (eval r env) (fun b s₂ => W prog w A (compareOp op a b) Q s₂) s₁) s) (hm : behindInMarks op r = false := by with_unfolding_all rfl) :
    Wc prog w A (eval (.Compare l [op] [r] pos) env) Q s := fun Γ p hΓ hc => by
  simp only [eval_Compare1, markedBehindIn_of_false hm, Sem.wp_bind', Sem.wp_holding, Sem.wp_cmd_standAt, Sem.wp_operate]
  refine Sem.wp_mono _ Γ _ (fun a p₁ s₁ h₁ => ?_) (fun _ _ _ h' => h') _ _ (k Γ p hΓ hc)
  exact Sem.wp_mono _ Γ _ (fun b _ s₂ h₂ => h₂ Γ _ hΓ) (fun _ _ _ h' => h') _ _ (h₁ Γ p₁ hΓ hc)
theorem c_isCompare {l r : Expr} {op : CmpOp} {pos : Pos} {whole : Sem Value} {Q : Bool → Shared → Prop}
    (k : Wc prog w A (eval l env) (fun a s₁ => Wc prog w A (eval r env) (fun b s₂ => W prog w A (compareOp op a b) (fun c s₃ => W prog w A (truthy c) Q s₃) s₂) s₁) s) (hm : behindInMarks op r = false := by with_unfolding_all rfl) :
    Wc prog w A (isTrue (.Compare l [op] [r] pos) env whole) Q s := fun Γ p hΓ hc => by
  simp only [isTrue_Compare1, markedBehindIn_of_false hm, Sem.wp_bind', Sem.wp_holding, Sem.wp_cmd_standAt, Sem.wp_operate]
  refine Sem.wp_mono _ Γ _ (fun a p₁ s₁ h₁ => ?_) (fun _ _ _ h' => h') _ _ (k Γ p hΓ hc)
  refine Sem.wp_mono _ Γ _ (fun b p₂ s₂ h₂ => ?_) (fun _ _ _ h' => h') _ _ (h₁ Γ p₁ hΓ hc)
  exact Sem.wp_mono _ Γ _ (fun c p₃ s₃ h₃ => h₃ Γ p₃ hΓ) (fun _ _ _ h' => h') _ _ (h₂ Γ _ hΓ)
theorem c_keep {α : Type} {vs : List Value} {m : Sem α} {Q : α → Shared → Prop} (h : Wc prog w A m Q s) : Wc prog w A (m.keep vs) Q s := fun Γ p hΓ hc => by rw [Sem.wp_keep]; exact h Γ p hΓ hc
/-- a call of a known function, in a clean context -/
theorem c_withF {pos : Pos} {a : Addr} {fd : FuncData} {first : List Value} {e : Expr} {rest : List Expr} {Q : Value → Shared → Prop} (F : Fn σ a fd)
    (k : W prog w A (spliced (backTo pos (starEach (e :: rest) env))) (fun vs s₁ => CallC prog w A σ a (first ++ vs) Q s₁) s)
    (he : starEach (e :: rest) env = (false, eval e env) :: starEach rest env := by rfl) (hp : (backTo pos (starEach (e :: rest) env)).any (·.1) = false := by rfl) (hl : decide ((backTo pos (starEach (e :: rest) env)).length + 2 * ([] : List (Option Str × Sem Value)).length > 30) = false := by rfl) :
    Wc prog w A (callWith pos (.ref a) first (backTo pos (starEach (e :: rest) env)) []) Q s := by
  obtain ⟨o, ho, hd, _⟩ := F.obj
  have key : Wc prog w A (evalArgs (.ref a) true (backTo pos (starEach (e :: rest) env)) []) (fun x s₁ => x.kw = [] ∧ CallC prog w A σ a (first ++ x.pos) Q s₁) s := by
    rw [he] at k ⊢
    exact c_of (Calls.evalArgs_plain (wpAny_mono k (fun vs s₁ h₁ => ⟨rfl, h₁⟩) fun _ _ x => x))
  unfold callWith
  refine c_bind (c_holding (c_mono key (fun x s₁ h₁ => ?_)))
  obtain ⟨hkw, hcall⟩ := h₁
  refine c_bind (c_standAt ?_)
  dsimp only
  rw [hp, hkw]
  have hk : W prog w A (keeperOf (.ref a)) (fun r s' => r = .frame ∧ s' = s₁) s₁ := by
    unfold keeperOf
    refine wpAny_bind (wpAny_load (hcall.1 _ ho) ?_)
    rw [hd]
    exact wpAny_pure ⟨rfl, rfl⟩
  refine c_bind (c_of (W.mono hk (fun r s₂ hr => ?_)))
  obtain ⟨rfl, rfl⟩ := hr
  show Wc prog w A (if (backTo pos (starEach (e :: rest) env)).length + 2 * ([] : List (Option Str × Sem Value)).length > 30 then _ else _) Q s₂
  rw [if_neg (of_decide_eq_false hl)]
  refine c_bind ?_
  unfold callMarked
  exact c_keep (c_mono hcall.run (fun r s₃ hr => c_bind (c_holding (c_of (wpAny_point (c_pure hr))))))
end
end Mine

namespace Mine
open PySem PySem.W PySem.Calls PyProof.Rows

def argOf : Stmt → Expr
  | .Expr (.Call _ (e :: _) _ _) _ => e
  | _ => .Name "" default
def shB : List Stmt := bodyOf (top 31)
def shScope : Scope := scopeOf (top 31)
def shFor : Stmt := nthS shB 1
def shBody : List Stmt := forBody shFor
abbrev envS (pc nc : Addr) (q : Str) (fa : Option Addr) (cd : Value) (fm : Option Addr) (Lf : Addr) : Env := envM shScope [("names", nc), ("points", pc)] q fa cd fm Lf

def pv (pts : List (Int × Int)) (a : Int) : Int := (kVal pts a).getD 0
def eHit (pts : List (Int × Int)) (a b : Int) : Bool := decide (a < b) && decide (pv pts a < pv pts b)
def eOf (pts : List (Int × Int)) (ms : List Int) (a : Int) : List (Int × Int) := (ms.filter (eHit pts a)).map fun b => (a, b)
/-- the edges in the order in which the law tells them -/
def edges (pts : List (Int × Int)) (names : List Int) : List (Int × Int) := names.flatMap (eOf pts names)
theorem pv_some {pts : List (Int × Int)} {a : Int} (h : (kVal pts a).isSome = true) : kVal pts a = some (pv pts a) := by
  unfold pv; cases q : kVal pts a with
  | none => rw [q] at h; cases h
  | some d => rfl
theorem eOf_take {pts : List (Int × Int)} {names : List Int} {a b : Int} {j : Nat} (hj : names[j]? = some b) : eOf pts (names.take (j + 1)) a = eOf pts (names.take j) a ++ (if eHit pts a b = true then [(a, b)] else []) := by
  unfold eOf
  rw [List.take_add_one, hj, Option.toList_some, List.filter_append, List.map_append]
  congr 1
  by_cases e : eHit pts a b = true
  · rw [if_pos e, List.filter_cons, if_pos e]; rfl
  · rw [if_neg e, List.filter_cons, if_neg e]; rfl
theorem flatMap_take {α β : Type} {f : α → List β} {l : List α} {a : α} {i : Nat} (hi : l[i]? = some a) : (l.take (i + 1)).flatMap f = (l.take i).flatMap f ++ f a := by
  rw [List.take_add_one, hi, Option.toList_some, List.flatMap_append]; simp
theorem segT_snoc {ts : List Addr} {es : List (Int × Int)} (h : ts.length = es.length) (T : Addr) (e : Int × Int) : segT (ts ++ [T]) (es ++ [e]) = segT ts es ++ [(T, tp2 e.1 e.2)] := by
  unfold segT; rw [List.zipWith_append h]; rfl
theorem lst_nil_ {o : Obj} (h : lst [] o) : lst (([] : List Addr).map Value.ref) o := h

section
variable {prog : Program} {w : World} {A : Around} {σ s : Shared} {G : Array GenState → Prop} {L L' R : List Cell} {K : Frag} {mg : Str → Option Value} {env : Env}

theorem eOf_len {pts : List (Int × Int)} {ms : List Int} {a : Int} : (eOf pts ms a).length ≤ ms.length := by
  unfold eOf; rw [List.length_map]; exact List.length_filter_le _ _
theorem flat_len {pts : List (Int × Int)} {ms : List Int} : ∀ l : List Int, (l.flatMap (eOf pts ms)).length ≤ l.length * ms.length
  | [] => by simp
  | a :: l => by
    rw [List.flatMap_cons, List.length_append, List.length_cons, Nat.succ_mul]
    have := flat_len (pts := pts) (ms := ms) l
    have := eOf_len (pts := pts) (ms := ms) (a := a)
    omega

theorem sh_edges (hA : A.handled = none) {q : Str} {fa : Option Addr} {cd : Value} {fm : Option Addr} {Lf pc nc Pp nl : Addr} {pts : List (Int × Int)} {names : List Int} {Q : Value → Shared → Prop} (hz : names.length ≤ 20) (hk : ∀ n ∈ names, (kVal pts n).isSome = true)
    (h : St σ G ((pc, cel (some (.ref Pp))) :: (nc, cel (some (.ref nl))) :: (Pp, dci prog w pts) :: (nl, ils names) :: R) s)
    (k : ∀ el ts s', ts.length = (edges pts names).length → St σ G ((el, lst (ts.map .ref)) :: (segT ts (edges pts names) ++ ((pc, cel (some (.ref Pp))) :: (nc, cel (some (.ref nl))) :: (Pp, dci prog w pts) :: (nl, ils names) :: R))) s' → Q (.ref el) s') :
    W prog w A (eval (argOf (nthS shBody 5)) (envS pc nc q fa cd fm Lf)) Q s := by
  refine T_listComp [("points", pc), ("names", nc)] rfl ?_
  refine t_cell h ?_
  refine i_iter h (fun it s h => ?_)
  refine T_crun (P0 := lst []) h (fun Q k => T_newList h (fun a s h => k a s h)) (fun acc Cc s h => ?_)
  refine T_compStart1 rfl rfl (fun Q' q => t_iterLit (l := nl) h q) ?_
  have hsq : ∀ i, ((names.take i).flatMap (eOf pts names)).length ≤ 400 := by
    intro i
    have q := flat_len (pts := pts) (ms := names) (names.take i)
    have q2 : (names.take i).length * names.length ≤ 20 * 20 := Nat.mul_le_mul (by rw [List.length_take]; omega) hz
    omega
  refine T_compLoop (turn_L20 ..) (Src.ints (σ := σ) (G := G) (A := A) hA it nl names _ _) (fun i L' => ∃ ts, ts.length = ((names.take i).flatMap (eOf pts names)).length ∧ L' = (Cc, fr []) :: (acc, lst (ts.map .ref)) :: (segT ts ((names.take i).flatMap (eOf pts names)) ++ ((pc, cel (some (.ref Pp))) :: (nc, cel (some (.ref nl))) :: (Pp, dci prog w pts) :: R)))
    (L := (Cc, fr []) :: (acc, lst []) :: ((pc, cel (some (.ref Pp))) :: (nc, cel (some (.ref nl))) :: (Pp, dci prog w pts) :: R)) (h.re) ⟨[], rfl, rfl⟩ ?_ ?_
  · rintro i v W L' s hi ⟨a, ta, hai, rfl, rfl⟩ ⟨ts, l1, rfl⟩ h
    have ha := hk a (List.mem_of_getElem? hai)
    have hfl := flatMap_take (f := eOf pts names) hai
    refine T_assignN ?_
    refine t_store h (fun s h => T_tests0 ?_)
    refine ite_yes rfl ?_
    refine T_innerComp ?_
    refine t_cell h ?_ (hf := (by repeat (first | exact List.Mem.head _ | apply List.Mem.tail | apply List.mem_append_right _)))
    refine i_iter h (fun it2 s h => ?_)
    refine T_compStart1 rfl rfl (fun Q' q => t_iterLit (l := nl) h q) ?_
    generalize hEs : (names.take i).flatMap (eOf pts names) = Es at h l1 hfl
    have hEl : Es.length ≤ 400 := by rw [← hEs]; exact hsq i
    refine T_compLoop (turn_L21 ..) (Src.ints (σ := σ) (G := G) (A := A) hA it2 nl names _ _) (fun j L' => ∃ ts, ts.length = (Es ++ eOf pts (names.take j) a).length ∧ L' = (Cc, fr [("a", .int a ta)]) :: (acc, lst (ts.map .ref)) :: (segT ts (Es ++ eOf pts (names.take j) a) ++ ((it, lit nl (i + 1)) :: (pc, cel (some (.ref Pp))) :: (nc, cel (some (.ref nl))) :: (Pp, dci prog w pts) :: R)))
      (L := (Cc, fr [("a", .int a ta)]) :: (acc, lst (ts.map .ref)) :: (segT ts (Es ++ eOf pts (names.take 0) a) ++ ((it, lit nl (i + 1)) :: (pc, cel (some (.ref Pp))) :: (nc, cel (some (.ref nl))) :: (Pp, dci prog w pts) :: R))) (by
        rw [show eOf pts (names.take 0) a = [] from rfl, List.append_nil]
        refine St.re (L := (it2, lit nl 0) :: (it, lit nl (i + 1)) :: (nl, ils names) :: (Cc, fr [("a", .int a ta)]) :: (acc, lst (ts.map .ref)) :: (segT ts Es ++ ((pc, cel (some (.ref Pp))) :: (nc, cel (some (.ref nl))) :: (Pp, dci prog w pts) :: R))) h) ⟨ts, by rw [show eOf pts (names.take 0) a = [] from rfl, List.append_nil]; exact l1, rfl⟩ ?_ ?_
    · rintro j v W L' s hj ⟨b, tb, hbj, rfl, rfl⟩ ⟨ts, l2, rfl⟩ h
      have hb := hk b (List.mem_of_getElem? hbj)
      have het := eOf_take (pts := pts) (a := a) hbj
      have hl3 : (Es ++ eOf pts (names.take j) a).length ≤ 500 := by
        have := eOf_len (pts := pts) (ms := names.take j) (a := a)
        rw [List.length_take] at this
        rw [List.length_append]; omega
      refine T_assignN ?_
      refine t_store h (fun s h => ?_)
      have h : St σ G ((Cc, fr [("b", .int b tb), ("a", .int a ta)]) :: (acc, lst (ts.map .ref)) :: (pc, cel (some (.ref Pp))) :: (Pp, dci prog w pts) :: (nc, cel (some (.ref nl))) :: (segT ts (Es ++ eOf pts (names.take j) a) ++ ((it2, lit nl (j + 1)) :: (nl, ils names) :: (it, lit nl (i + 1)) :: R))) s := by
        refine St.re (L := (it2, lit nl (j + 1)) :: (nl, ils names) :: (Cc, fr [("b", .int b tb), ("a", .int a ta)]) :: (acc, lst (ts.map .ref)) :: (segT ts (Es ++ eOf pts (names.take j) a) ++ ((it, lit nl (i + 1)) :: (pc, cel (some (.ref Pp))) :: (nc, cel (some (.ref nl))) :: (Pp, dci prog w pts) :: R))) h
      have no : ∀ s, St σ G ((Cc, fr [("b", .int b tb), ("a", .int a ta)]) :: (acc, lst (ts.map .ref)) :: (pc, cel (some (.ref Pp))) :: (Pp, dci prog w pts) :: (nc, cel (some (.ref nl))) :: (segT ts (Es ++ eOf pts (names.take j) a) ++ ((it2, lit nl (j + 1)) :: (nl, ils names) :: (it, lit nl (i + 1)) :: R))) s → eHit pts a b = false → ∃ L'', (∃ ts, ts.length = (Es ++ eOf pts (names.take (j + 1)) a).length ∧ L'' = (Cc, fr [("a", .int a ta)]) :: (acc, lst (ts.map .ref)) :: (segT ts (Es ++ eOf pts (names.take (j + 1)) a) ++ ((it, lit nl (i + 1)) :: (pc, cel (some (.ref Pp))) :: (nc, cel (some (.ref nl))) :: (Pp, dci prog w pts) :: R))) ∧ St σ G ([(it2, lit nl (j + 1)), (nl, ils names)] ++ L'') s := by
        intro s h e
        rw [het, e, if_neg Bool.false_ne_true, List.append_nil]
        have h : St σ G ((Cc, fr [("a", .int a ta)]) :: (acc, lst (ts.map .ref)) :: (pc, cel (some (.ref Pp))) :: (Pp, dci prog w pts) :: (nc, cel (some (.ref nl))) :: (segT ts (Es ++ eOf pts (names.take j) a) ++ ((it2, lit nl (j + 1)) :: (nl, ils names) :: (it, lit nl (i + 1)) :: R))) s := h.frame [] [("a", .int a ta)]
        exact ⟨_, ⟨ts, l2, rfl⟩, h.re⟩
      refine T_tests1 (T_isAnd2 (T_isCompare ?_))
      refine t_name h ?_
      refine t_name h (T_ltInt (T_truthyBool ?_))
      by_cases e1 : a < b
      · refine ite_yes (decide_eq_true e1) ?_
        refine T_isCompare (T_sub ?_)
        refine t_cell h ?_
        refine t_name h ?_
        refine K_item h (by repeat (first | exact List.Mem.head _ | apply List.Mem.tail | apply List.mem_append_right _)) (pv_some ha) (fun t1 s h => ?_)
        refine T_sub ?_
        refine t_cell h ?_
        refine t_name h ?_
        refine K_item h (by repeat (first | exact List.Mem.head _ | apply List.Mem.tail | apply List.mem_append_right _)) (pv_some hb) (fun t2 s h => T_ltInt (T_truthyBool ?_))
        by_cases e2 : pv pts a < pv pts b
        · refine ite_yes (decide_eq_true e2) ?_
          refine T_emitList (T_tuple (T_args ?_))
          refine t_name h (T_args ?_)
          refine t_name h (T_args0 (T_newTuple h (fun T s h => ?_)))
          refine t_append h (fun s h => ?_) (hz := by rw [List.length_map]; omega)
          rw [show ts.map Value.ref ++ [Value.ref T] = (ts ++ [T]).map Value.ref by simp] at h
          have hT : eHit pts a b = true := by unfold eHit; rw [decide_eq_true e1, decide_eq_true e2]; rfl
          have h := h.weaken (P' := tp2 a b) (fun o ho => ⟨_, _, ho⟩)
          have h : St σ G ((T, tp2 a b) :: (Cc, fr [("a", .int a ta)]) :: (acc, lst ((ts ++ [T]).map .ref)) :: (pc, cel (some (.ref Pp))) :: (Pp, dci prog w pts) :: (nc, cel (some (.ref nl))) :: (segT ts (Es ++ eOf pts (names.take j) a) ++ ((it2, lit nl (j + 1)) :: (nl, ils names) :: (it, lit nl (i + 1)) :: R))) s := h.frame [_] [("a", .int a ta)]
          refine ⟨_, ⟨ts ++ [T], ?_, rfl⟩, ?_⟩
          · rw [het, hT, if_pos rfl, ← List.append_assoc, List.length_append, List.length_append, l2]; rfl
          · rw [het, hT, if_pos rfl, ← List.append_assoc, segT_snoc l2]
            exact h.re
        · refine ite_no (decide_eq_false e2) ?_
          exact no s h (by unfold eHit; rw [decide_eq_false e2, Bool.and_false])
      · refine ite_no (decide_eq_false e1) ?_
        refine ite_no rfl ?_
        exact no s h (by unfold eHit; rw [decide_eq_false e1, Bool.false_and])
    · rintro L' s ⟨ts, l2, rfl⟩ h
      rw [List.take_length] at l2 h
      rw [← hfl] at l2 h
      have h : St σ G ((Cc, fr []) :: (acc, lst (ts.map .ref)) :: (nl, ils names) :: (segT ts ((names.take (i + 1)).flatMap (eOf pts names)) ++ ((it, lit nl (i + 1)) :: (pc, cel (some (.ref Pp))) :: (nc, cel (some (.ref nl))) :: (Pp, dci prog w pts) :: R))) s := by
        have h : St σ G ((Cc, fr [("a", .int a ta)]) :: (acc, lst (ts.map .ref)) :: (nl, ils names) :: (segT ts ((names.take (i + 1)).flatMap (eOf pts names)) ++ ((it, lit nl (i + 1)) :: (pc, cel (some (.ref Pp))) :: (nc, cel (some (.ref nl))) :: (Pp, dci prog w pts) :: R))) s := h.re
        exact h.frame [] []
      exact ⟨_, ⟨ts, l2, rfl⟩, h.re⟩
  · rintro L' s ⟨ts, l1, rfl⟩ h
    rw [List.take_length] at l1 h
    have h : St σ G ((Cc, fr []) :: ((acc, lst (ts.map .ref)) :: (segT ts (edges pts names) ++ ((pc, cel (some (.ref Pp))) :: (nc, cel (some (.ref nl))) :: (Pp, dci prog w pts) :: (nl, ils names) :: R)))) s := by
      refine St.re (L := (nl, ils names) :: (Cc, fr []) :: (acc, lst (ts.map .ref)) :: (segT ts (edges pts names) ++ ((pc, cel (some (.ref Pp))) :: (nc, cel (some (.ref nl))) :: (Pp, dci prog w pts) :: R))) h
    exact ⟨_, _, h, fun s h => k acc ts s l1 h⟩
end
end Mine

namespace Mine
open PySem PySem.W PySem.Calls PyProof.Rows

/-- what the names of the text mean -/
structure GF (mg : Str → Option Value) : Prop where
  len : mg "len" = none
  range : mg "range" = none
  enumerate : mg "enumerate" = none
  iter : mg "iter" = none
  hasattr : mg "hasattr" = none
  sorted : mg "sorted" = none
  list : mg "list" = none
  zip : mg "zip" = none
  dict : mg "dict" = none
  inDeg : mg "InDegreeView" = some (.ref cIn)
  notFound : mg "_NOT_FOUND" = some (.ref 506)
  di : mg "DiGraph" = some (.ref cDi)
  topo : mg "topological_generations" = some (.ref 75)

theorem fmod_bounds (a : Int) {n : Nat} (hn : n ≠ 0) : 0 ≤ a.fmod n ∧ a.fmod n < n := by
  have hp : (0 : Int) < n := by omega
  exact ⟨Int.fmod_nonneg_of_pos a hp, Int.fmod_lt_of_pos a hp⟩

def rowOf (pts : List (Int × Int)) (lines : List (List Int)) : List Int := lines.map fun l => pv pts (l.getLastD 0)
def plOf (lines : List (List Int)) : List Int := lines.map fun l => l.headD 0
def lineNext (pts : List (Int × Int)) (l : List Int) : List (Int × Int) := List.zipWith (fun a b => (b, pv pts a)) l l.tail
def nextP (pts : List (Int × Int)) (lines : List (List Int)) : List (Int × Int) := lines.flatMap (lineNext pts)

section
variable {prog : Program} {w : World} {A : Around} {σ s : Shared} {G : Array GenState → Prop} {L L' R : List Cell} {K : Frag} {mg : Str → Option Value} {env : Env}

theorem K_sorted {D : Addr} {ind : List (Int × Int)} {Q : Value → Shared → Prop} (hA : A.handled = none) (h : St σ G L s) (hD : (D, dci prog w ind) ∈ L) (hz : ind.length ≤ 60) (k : ∀ a ns' s', ns'.Perm (ind.map (·.1)) → ns'.Pairwise (· ≤ ·) → St σ G ((a, ils ns') :: L) s' → Q (.ref a) s') : W prog w A (call (.builtin "sorted") [.ref D]) Q s := by
  obtain ⟨F, R, rfl⟩ := has_split hD
  obtain ⟨kvs, hkv, h'⟩ := St.openE (p := fun kvs => DV ind kvs) (P := dct prog w) h
  refine D_sorted hA h' (List.mem_append_right _ (.head _)) (by rw [hkv.length]; exact hz) (fun a ns' s' p1 p2 h2 => k a ns' s' (by rw [← hkv.keys]; exact p1) p2 ?_)
  exact St.shut (F := (a, ils ns') :: F) h2 fun o ho => dci_of hkv ho

theorem sh_sorted (B : Base σ mg) (GG : GF mg) (hA : A.handled = none) {q : Str} {fa : Option Addr} {cd : Value} {fm : Option Addr} {Lf pc nc Pp : Addr} {fl : List (Str × Value)} {nv : Option Value} {pts : List (Int × Int)} {Q : Flow → Shared → Prop} (hz : pts.length ≤ 20)
    (h : St σ G ((Lf, fr fl) :: (pc, cel (some (.ref Pp))) :: (nc, cel nv) :: (Pp, dci prog w pts) :: R) s)
    (k : ∀ nl ns s', ns.Perm (pts.map (·.1)) → St σ G ((Lf, fr fl) :: (pc, cel (some (.ref Pp))) :: (nc, cel (some (.ref nl))) :: (Pp, dci prog w pts) :: (nl, ils ns) :: R) s' → Q .next s') :
    W prog w A (exec (nthS shBody 1) (envS pc nc q fa cd fm Lf)) Q s := by
  refine T_assignName (T_call (T_builtin B h GG.sorted (v := .builtin "sorted") (by decide +kernel) ?_))
  refine T_with1 (T_args ?_)
  refine t_cell h (T_args0 ?_)
  refine K_sorted hA h (by repeat (first | exact List.Mem.head _ | apply List.Mem.tail | apply List.mem_append_right _)) (by omega) (fun nl ns s p1 p2 h => ?_)
  refine t_storeCell h (fun s h => ?_)
  exact k nl ns s p1 h.re

theorem sh_turn (B : Base σ mg) (GG : GF mg) (hA : A.handled = none) {q : Str} {fa : Option Addr} {cd : Value} {fm : Option Addr} {Lf pc nc nl : Addr} {fl : List (Str × Value)} {ns : List Int} {turn : Int} {tt : Tok} {Q : Flow → Shared → Prop} (hz : ns.length ≤ 20) (hne : ns ≠ []) (hf : (Str.ofString "turn", Value.int turn tt) ∈ fl)
    (h : St σ G ((Lf, fr fl) :: (nc, cel (some (.ref nl))) :: (nl, ils ns) :: R) s)
    (k : ∀ nl ns' s', ns'.Perm ns → St σ G ((Lf, fr fl) :: (nc, cel (some (.ref nl))) :: (nl, ils ns') :: R) s' → Q .next s') :
    W prog w A (exec (nthS shBody 2) (envS pc nc q fa cd fm Lf)) Q s := by
  have hl0 : ns.length ≠ 0 := fun e => hne (List.eq_nil_of_length_eq_zero e)
  obtain ⟨m0, m1⟩ := fmod_bounds turn hl0
  have em : ((turn.fmod ns.length).toNat : Int) = turn.fmod ns.length := Int.toNat_of_nonneg m0
  refine T_assignName (T_binop (I_slice (σ := σ) (G := G) ?_))
  refine t_cell h (wpAny_evalPart_some (T_binop ?_))
  refine T_name h (.head _) hf (T_call (T_builtin B h GG.len bt_len ?_))
  refine T_with1 (T_args ?_)
  refine t_cell h (T_args0 ?_)
  refine i_len h (fun t1 s h => ?_)
  refine T_modInt h (by omega) (fun t2 s h => wpAny_evalPart_none ?_)
  refine ⟨nl, ns, some ((turn.fmod ns.length).toNat : Int), none, _, rfl, h, (by repeat (first | exact List.Mem.head _ | apply List.Mem.tail | apply List.mem_append_right _)), by omega, by rw [em]; exact .int _ _, .none, ns.drop (turn.fmod ns.length).toNat, fun vs hv => pick_from _ (by omega) hv, fun a1 s h => ?_⟩
  refine I_slice (σ := σ) (G := G) ?_
  refine t_cell h (wpAny_evalPart_none (wpAny_evalPart_some (T_binop ?_)))
  refine T_name h (.tail _ (.head _)) hf (T_call (T_builtin B h GG.len bt_len ?_))
  refine T_with1 (T_args ?_)
  refine t_cell h (T_args0 ?_)
  refine i_len h (fun t3 s h => ?_)
  refine T_modInt h (by omega) (fun t4 s h => ?_)
  refine ⟨nl, ns, none, some ((turn.fmod ns.length).toNat : Int), _, rfl, h, (by repeat (first | exact List.Mem.head _ | apply List.Mem.tail | apply List.mem_append_right _)), by omega, .none, by rw [em]; exact .int _ _, ns.take (turn.fmod ns.length).toNat, fun vs hv => pick_upto _ (by omega) hv, fun a2 s h => ?_⟩
  refine I_add (l := a1) (b := a2) h (by repeat (first | exact List.Mem.head _ | apply List.Mem.tail | apply List.mem_append_right _)) (by repeat (first | exact List.Mem.head _ | apply List.Mem.tail | apply List.mem_append_right _)) (by rw [List.length_drop, List.length_take]; omega) (fun a3 s h => ?_)
  refine t_storeCell h (fun s h => ?_)
  have h : St σ G ([(a2, ils (ns.take (turn.fmod ns.length).toNat)), (a1, ils (ns.drop (turn.fmod ns.length).toNat)), (nl, ils ns)] ++ ((Lf, fr fl) :: (nc, cel (some (.ref a3))) :: (a3, ils (ns.drop (turn.fmod ns.length).toNat ++ ns.take (turn.fmod ns.length).toNat)) :: R)) s := h.re
  refine k a3 _ s ?_ (h.sub (List.sublist_append_right _ _))
  have := List.take_append_drop (turn.fmod ns.length).toNat ns
  conv => rhs; rw [← this]
  exact List.perm_append_comm

theorem seg_at {ls : List Addr} {lines : List (List Int)} (hl : ls.length = lines.length) {i : Nat} {v : Value} (hv : (ls.map Value.ref)[i]? = some v) : ∃ a l, v = .ref a ∧ ls[i]? = some a ∧ lines[i]? = some l ∧ (a, ils l) ∈ seg ls lines := by
  rw [List.getElem?_map] at hv
  obtain ⟨a, ha, e⟩ := Option.map_eq_some_iff.mp hv
  have hi := (List.getElem?_eq_some_iff.mp ha).1
  have hL : lines[i]? = some lines[i] := List.getElem?_eq_getElem (by omega)
  exact ⟨a, _, e.symm, ha, hL, mem_seg ha hL⟩
theorem map_take {α β : Type} {f : α → β} {l : List α} {i : Nat} {a : α} (h : l[i]? = some a) : (l.take (i + 1)).map f = (l.take i).map f ++ [f a] := by
  rw [List.take_add_one, h]; simp

/-- rows.append([points[line[-1]] for line in lines]) -/
theorem sh_rows (B : Base σ mg) (GG : GF mg) (hA : A.handled = none) {q : Str} {fa : Option Addr} {cd : Value} {fm : Option Addr} {Lf pc nc Pp ra ll : Addr} {fl : List (Str × Value)} {pts : List (Int × Int)} {lines : List (List Int)} {ls as : List Addr} {Q : Flow → Shared → Prop} (hz : lines.length ≤ 20) (hza : as.length ≤ 100) (hl : ls.length = lines.length)
    (hne : ∀ l ∈ lines, l ≠ []) (hk : ∀ l ∈ lines, ∀ n ∈ l, (kVal pts n).isSome = true) (hf : (Str.ofString "rows", Value.ref ra) ∈ fl) (hf2 : (Str.ofString "lines", Value.ref ll) ∈ fl)
    (h : St σ G ((Lf, fr fl) :: (pc, cel (some (.ref Pp))) :: (Pp, dci prog w pts) :: (ra, lst (as.map .ref)) :: (ll, lst (ls.map .ref)) :: (seg ls lines ++ R)) s)
    (k : ∀ nr s', St σ G ((Lf, fr fl) :: (pc, cel (some (.ref Pp))) :: (Pp, dci prog w pts) :: (ra, lst ((as ++ [nr]).map .ref)) :: (nr, ils (rowOf pts lines)) :: (ll, lst (ls.map .ref)) :: (seg ls lines ++ R)) s' → Q .next s') :
    W prog w A (exec (nthS shBody 7) (envS pc nc q fa cd fm Lf)) Q s := by
  refine T_expr (T_method ?_)
  refine T_name h (.head _) hf ?_
  refine t_getAppend (l := ra) h ?_
  refine T_with1 (T_args (T_listComp [("points", pc)] rfl ?_))
  refine T_name h (.head _) hf2 ?_
  refine t_iter (l := ll) h (fun it s h => ?_)
  refine T_crun (P0 := ils []) h (fun Q k => I_newList h .nil (fun a s h => k a s h)) (fun acc Cc s h => ?_)
  refine T_compStart1 rfl rfl (fun Q' q => t_iterLit (l := ll) h q) ?_
  refine T_compLoop (turn_L1 ..) (Src.list (σ := σ) (G := G) (A := A) hA it ll (ls.map .ref) _ _) (fun i L' => L' = (Cc, fr []) :: (acc, ils (rowOf pts (lines.take i))) :: (Lf, fr fl) :: (pc, cel (some (.ref Pp))) :: (Pp, dci prog w pts) :: (ra, lst (as.map .ref)) :: (seg ls lines ++ R)) (h.re) rfl ?_ ?_
  · rintro i v W L' s hi ⟨hv, rfl⟩ rfl h
    obtain ⟨a, l, rfl, ha, hli, hm⟩ := seg_at hl hv
    have hln := hne l (List.mem_of_getElem? hli)
    have hlk := hk l (List.mem_of_getElem? hli)
    have e : rowOf pts (lines.take (i + 1)) = rowOf pts (lines.take i) ++ [pv pts (l.getLastD 0)] := map_take hli
    have hlen : (rowOf pts (lines.take i)).length ≤ 20 := by unfold rowOf; rw [List.length_map, List.length_take]; omega
    have hlast : (kVal pts (l.getLastD 0)).isSome = true := hlk _ (by cases l with | nil => exact absurd rfl hln | cons x r => rw [List.getLastD_cons]; exact List.getLastD_mem_cons)
    refine T_assignN ?_
    refine t_store h (fun s h => T_tests0 ?_)
    refine ite_yes rfl ?_
    refine T_emitList (T_sub ?_)
    refine t_cell h (T_sub ?_)
    refine t_name h (T_neg (T_int h (fun t1 s h => T_negInt h (fun t2 s h => ?_))))
    refine I_last (l := a) h (by repeat (first | exact List.mem_append_left _ hm | apply List.Mem.tail)) hln (fun t3 => ?_)
    refine K_item h (by repeat (first | exact List.Mem.head _ | apply List.Mem.tail | apply List.mem_append_right _)) (pv_some hlast) (fun t4 s h => ?_)
    refine i_append h (fun s h => ?_)
    rw [← e] at h
    exact ⟨_, rfl, h.frame [_, _] []⟩
  · rintro L' s rfl h
    rw [List.length_map, hl, List.take_length] at h
    have h : St σ G ((Cc, fr []) :: ((acc, ils (rowOf pts lines)) :: (Lf, fr fl) :: (pc, cel (some (.ref Pp))) :: (Pp, dci prog w pts) :: (ra, lst (as.map .ref)) :: (ll, lst (ls.map .ref)) :: (seg ls lines ++ R))) s := h.re
    refine ⟨_, _, h, fun s h => T_args0 ?_⟩
    refine t_append (l := ra) h (fun s h => ?_) (hz := by rw [List.length_map]; omega)
    rw [show as.map Value.ref ++ [Value.ref acc] = (as ++ [acc]).map Value.ref by simp] at h
    exact k acc s h.re
end
end Mine

namespace Mine
open PySem PySem.W PySem.Calls PyProof.Rows

theorem new_in {full pre post : List (Int × Int)} {x : Int × Int} (e : full = pre ++ x :: post) (hn : (full.map (·.1)).Nodup) : x.1 ∉ pre.map (·.1) := by
  subst e
  rw [List.map_append, List.map_cons, List.nodup_append] at hn
  intro hm
  exact hn.2.2 _ hm _ (.head _) rfl
theorem split_at {α : Type} {l : List α} {i : Nat} {a : α} (h : l[i]? = some a) : l = l.take i ++ a :: l.drop (i + 1) := by
  obtain ⟨h1, rfl⟩ := List.getElem?_eq_some_iff.mp h
  rw [← List.drop_eq_getElem_cons h1, List.take_append_drop]

section
variable {prog : Program} {w : World} {A : Around} {σ s : Shared} {G : Array GenState → Prop} {L L' R : List Cell} {K : Frag} {mg : Str → Option Value} {env : Env}

/-- places.append([line[0] for line in lines]) -/
theorem sh_places (B : Base σ mg) (GG : GF mg) (hA : A.handled = none) {q : Str} {fa : Option Addr} {cd : Value} {fm : Option Addr} {Lf pc nc pa ll : Addr} {fl : List (Str × Value)} {lines : List (List Int)} {ls bs : List Addr} {Q : Flow → Shared → Prop} (hz : lines.length ≤ 20) (hza : bs.length ≤ 100) (hl : ls.length = lines.length)
    (hne : ∀ l ∈ lines, l ≠ []) (hzl : ∀ l ∈ lines, l.length ≤ 100) (hf : (Str.ofString "places", Value.ref pa) ∈ fl) (hf2 : (Str.ofString "lines", Value.ref ll) ∈ fl)
    (h : St σ G ((Lf, fr fl) :: (pa, lst (bs.map .ref)) :: (ll, lst (ls.map .ref)) :: (seg ls lines ++ R)) s)
    (k : ∀ nr s', St σ G ((Lf, fr fl) :: (pa, lst ((bs ++ [nr]).map .ref)) :: (nr, ils (plOf lines)) :: (ll, lst (ls.map .ref)) :: (seg ls lines ++ R)) s' → Q .next s') :
    W prog w A (exec (nthS shBody 8) (envS pc nc q fa cd fm Lf)) Q s := by
  refine T_expr (T_method ?_)
  refine T_name h (.head _) hf ?_
  refine t_getAppend (l := pa) h ?_
  refine T_with1 (T_args (T_listComp [] rfl ?_))
  refine T_name h (.head _) hf2 ?_
  refine t_iter (l := ll) h (fun it s h => ?_)
  refine T_crun (P0 := ils []) h (fun Q k => I_newList h .nil (fun a s h => k a s h)) (fun acc Cc s h => ?_)
  refine T_compStart1 rfl rfl (fun Q' q => t_iterLit (l := ll) h q) ?_
  refine T_compLoop (turn_L1 ..) (Src.list (σ := σ) (G := G) (A := A) hA it ll (ls.map .ref) _ _) (fun i L' => L' = (Cc, fr []) :: (acc, ils (plOf (lines.take i))) :: (Lf, fr fl) :: (pa, lst (bs.map .ref)) :: (seg ls lines ++ R)) (h.re) rfl ?_ ?_
  · rintro i v W L' s hi ⟨hv, rfl⟩ rfl h
    obtain ⟨a, l, rfl, ha, hli, hm⟩ := seg_at hl hv
    have hln := hne l (List.mem_of_getElem? hli)
    have hll := hzl l (List.mem_of_getElem? hli)
    have e : plOf (lines.take (i + 1)) = plOf (lines.take i) ++ [l.headD 0] := map_take hli
    have hlen : (plOf (lines.take i)).length ≤ 20 := by unfold plOf; rw [List.length_map, List.length_take]; omega
    have h0 : l[(0 : Int).toNat]? = some (l.headD 0) := by cases l with | nil => exact absurd rfl hln | cons x r => rfl
    refine T_assignN ?_
    refine t_store h (fun s h => T_tests0 ?_)
    refine ite_yes rfl ?_
    refine T_emitList (T_sub ?_)
    refine t_name h (T_int h (fun t1 s h => ?_))
    refine i_item (l := a) h (by decide) h0 (fun t3 => ?_) (hl := by repeat (first | exact List.mem_append_left _ hm | apply List.Mem.tail))
    refine i_append h (fun s h => ?_)
    rw [← e] at h
    exact ⟨_, rfl, h.frame [_, _] []⟩
  · rintro L' s rfl h
    rw [List.length_map, hl, List.take_length] at h
    have h : St σ G ((Cc, fr []) :: ((acc, ils (plOf lines)) :: (Lf, fr fl) :: (pa, lst (bs.map .ref)) :: (ll, lst (ls.map .ref)) :: (seg ls lines ++ R))) s := h.re
    refine ⟨_, _, h, fun s h => T_args0 ?_⟩
    refine t_append (l := pa) h (fun s h => ?_) (hz := by rw [List.length_map]; omega)
    rw [show bs.map Value.ref ++ [Value.ref acc] = (bs ++ [acc]).map Value.ref by simp] at h
    exact k acc s h.re

/-- the points of the next round -/
theorem sh_next (B : Base σ mg) (GG : GF mg) (hA : A.handled = none) {q : Str} {fa : Option Addr} {cd : Value} {fm : Option Addr} {Lf pc nc Pp ll : Addr} {fl : List (Str × Value)} {pts : List (Int × Int)} {lines : List (List Int)} {ls : List Addr} {Q : Flow → Shared → Prop} (hl : ls.length = lines.length)
    (hzl : ∀ l ∈ lines, l.length ≤ 100) (hk : ∀ l ∈ lines, ∀ n ∈ l, (kVal pts n).isSome = true) (hnd : ((nextP pts lines).map (·.1)).Nodup) (hzn : (nextP pts lines).length ≤ 100) (hf2 : (Str.ofString "lines", Value.ref ll) ∈ fl)
    (h : St σ G ((Lf, fr fl) :: (pc, cel (some (.ref Pp))) :: (Pp, dci prog w pts) :: (ll, lst (ls.map .ref)) :: (seg ls lines ++ R)) s)
    (k : ∀ Pq s', St σ G ((Lf, fr fl) :: (pc, cel (some (.ref Pq))) :: (Pq, dci prog w (nextP pts lines)) :: R) s' → Q .next s') :
    W prog w A (exec (nthS shBody 9) (envS pc nc q fa cd fm Lf)) Q s := by
  refine T_assignName (T_dictComp [("points", pc)] rfl ?_)
  refine T_name h (.head _) hf2 ?_
  refine t_iter (l := ll) h (fun it s h => ?_)
  refine T_crun (P0 := dct prog w []) h (fun Q k => D_new h (fun a s h => k a s h)) (fun acc Cc s h => ?_)
  have h := St.shut (F := [_]) h (fun o ho => dci_nil ho)
  refine T_compStart1 rfl rfl (fun Q' q => t_iterLit (l := ll) h q) ?_
  refine T_compLoop (turn_D20 ..) (Src.list (σ := σ) (G := G) (A := A) hA it ll (ls.map .ref) _ _) (fun i L' => L' = (Cc, fr []) :: (acc, dci prog w (nextP pts (lines.take i))) :: (Lf, fr fl) :: (pc, cel (some (.ref Pp))) :: (Pp, dci prog w pts) :: (seg ls lines ++ R)) (h.re) rfl ?_ ?_
  · rintro i v W L' s hi ⟨hv, rfl⟩ rfl h
    obtain ⟨a, l, rfl, ha, hli, hm⟩ := seg_at hl hv
    have hll := hzl l (List.mem_of_getElem? hli)
    have hlk := hk l (List.mem_of_getElem? hli)
    have e : nextP pts (lines.take (i + 1)) = nextP pts (lines.take i) ++ lineNext pts l := flatMap_take hli
    have efull : nextP pts lines = nextP pts (lines.take i) ++ (lineNext pts l ++ nextP pts (lines.drop (i + 1))) := by
      have := split_at hli
      conv => lhs; rw [this]
      unfold nextP
      rw [List.flatMap_append, List.flatMap_cons]
    have hlenN : (nextP pts (lines.take i)).length + (lineNext pts l).length ≤ 100 := by
      have := congrArg List.length efull
      rw [List.length_append, List.length_append] at this
      omega
    refine T_assignN ?_
    refine t_store h (fun s h => T_tests0 ?_)
    refine ite_yes rfl ?_
    refine T_innerComp (T_call (T_builtin B h GG.zip (v := .type "zip") (by decide +kernel) ?_))
    refine T_withT (T_args ?_)
    refine t_name h (T_args (I_slice (σ := σ) (G := G) ?_))
    refine t_name h (wpAny_evalPart_some (T_int h (fun t1 s h => wpAny_evalPart_none ?_)))
    refine ⟨a, l, some ((1 : Nat) : Int), none, _, rfl, h, (by repeat (first | exact List.mem_append_left _ hm | apply List.Mem.tail)), by omega, .int _ _, .none, l.drop 1, ?_, fun a1 s h => T_args0 ?_⟩
    · intro vs hv
      by_cases e0 : l.length = 0
      · have hl0 := List.eq_nil_of_length_eq_zero e0
        subst hl0
        cases hv
        exact .nil
      · exact pick_from 1 (by omega) hv
    obtain ⟨F1, R1, hsp⟩ := has_split (L := seg ls lines) hm
    have h : St σ G ((a, ils l) :: (a1, ils (l.drop 1)) :: (it, lit ll (i + 1)) :: (ll, lst (ls.map .ref)) :: (Cc, fr [("line", .ref a)]) :: (acc, dci prog w (nextP pts (lines.take i))) :: (Lf, fr fl) :: (pc, cel (some (.ref Pp))) :: (Pp, dci prog w pts) :: (F1 ++ (R1 ++ R))) s := by
      rw [hsp] at h
      refine St.re (L := (a1, ils (l.drop 1)) :: (it, lit ll (i + 1)) :: (ll, lst (ls.map .ref)) :: (Cc, fr [("line", .ref a)]) :: (acc, dci prog w (nextP pts (lines.take i))) :: (Lf, fr fl) :: (pc, cel (some (.ref Pp))) :: (Pp, dci prog w pts) :: ((F1 ++ (a, ils l) :: R1) ++ R)) h
    refine I_zip (l1 := a) (l2 := a1) h (by repeat (first | exact List.Mem.head _ | apply List.Mem.tail | apply List.mem_append_right _)) (by repeat (first | exact List.Mem.head _ | apply List.Mem.tail | apply List.mem_append_right _)) (fun z TI TO i1 i2 s h => ?_)
    refine T_iterZip h (by repeat (first | exact List.Mem.head _ | apply List.Mem.tail | apply List.mem_append_right _)) ?_
    refine T_compStart1 rfl rfl (fun Q' q => T_iterZip h (by repeat (first | exact List.Mem.head _ | apply List.Mem.tail | apply List.mem_append_right _)) q) ?_
    generalize hEs : nextP pts (lines.take i) = Es at h e efull hlenN
    refine T_compLoop (turn_D21 ..) (Src.zipInts (σ := σ) (G := G) (A := A) hA z TI TO i1 i2 a a1 l (l.drop 1) ((l.drop 1).length) (by rw [List.length_drop]; omega) _ _ _) (fun j L' => ∃ lx, L' = (Cc, fr lx) :: (acc, dci prog w (Es ++ (lineNext pts l).take j)) :: ((it, lit ll (i + 1)) :: (ll, lst (ls.map .ref)) :: (Lf, fr fl) :: (pc, cel (some (.ref Pp))) :: (Pp, dci prog w pts) :: (F1 ++ (R1 ++ R))))
      (L := (Cc, fr [("line", .ref a)]) :: (acc, dci prog w (Es ++ (lineNext pts l).take 0)) :: ((it, lit ll (i + 1)) :: (ll, lst (ls.map .ref)) :: (Lf, fr fl) :: (pc, cel (some (.ref Pp))) :: (Pp, dci prog w pts) :: (F1 ++ (R1 ++ R)))) (by
        rw [List.take_zero, List.append_nil]
        refine h.re (e := ?_)
        intro a; simp only [zipI, cnt_cons, cnt_app, cnt_nil, Nat.zero_add, Nat.add_zero]; ac_rfl) ⟨_, rfl⟩ ?_ ?_
    · rintro j v W L' s hj ⟨x, y, T, tx, ty, hx, hy, rfl, rfl⟩ ⟨lx, rfl⟩ h
      have hxk := hlk x (List.mem_of_getElem? hx)
      have hyt : l.tail[j]? = some y := by rw [← List.drop_one]; exact hy
      have hat : (lineNext pts l)[j]? = some (y, pv pts x) := by unfold lineNext; rw [List.getElem?_zipWith, hx, hyt]
      have e2 : (lineNext pts l).take (j + 1) = (lineNext pts l).take j ++ [(y, pv pts x)] := by rw [List.take_add_one, hat]; rfl
      have hnew : y ∉ (Es ++ (lineNext pts l).take j).map (·.1) := by
        refine new_in (x := (y, pv pts x)) (post := (lineNext pts l).drop (j + 1) ++ nextP pts (lines.drop (i + 1))) (full := nextP pts lines) ?_ hnd
        rw [efull]
        have := split_at hat
        conv => lhs; rw [this]
        simp only [List.append_assoc, List.cons_append]
      have hlen2 : (Es ++ (lineNext pts l).take j).length ≤ 100 := by rw [List.length_append, List.length_take]; omega
      have h : St σ G ((T, tup [.int x tx, .int y ty]) :: (Cc, fr lx) :: (acc, dci prog w (Es ++ (lineNext pts l).take j)) :: (pc, cel (some (.ref Pp))) :: (Pp, dci prog w pts) :: (zipI z TI TO i1 i2 a a1 l (l.drop 1) (j + 1) ++ ((it, lit ll (i + 1)) :: (ll, lst (ls.map .ref)) :: (Lf, fr fl) :: (F1 ++ (R1 ++ R))))) s := h.re
      have h : St σ G ((T, tup [.int x tx, .int y ty]) :: (Cc, fr []) :: (acc, dci prog w (Es ++ (lineNext pts l).take j)) :: (pc, cel (some (.ref Pp))) :: (Pp, dci prog w pts) :: (zipI z TI TO i1 i2 a a1 l (l.drop 1) (j + 1) ++ ((it, lit ll (i + 1)) :: (ll, lst (ls.map .ref)) :: (Lf, fr fl) :: (F1 ++ (R1 ++ R))))) s := h.frame [_] []
      refine T_assignTuple hA h (fun s h => T_order (T_assignN ?_))
      refine t_store h (fun s h => T_order (T_assignN ?_))
      refine t_store h (fun s h => T_order0 ?_)
      refine T_tests0 (ite_yes rfl ?_)
      refine T_emitDict ?_
      refine t_name h (T_sub ?_)
      refine t_cell h ?_
      refine t_name h ?_
      refine K_item (D := Pp) h (by repeat (first | exact List.Mem.head _ | apply List.Mem.tail | apply List.mem_append_right _)) (pv_some hxk) (fun t4 s h => ?_)
      refine K_dictNew (D := acc) h (by repeat (first | exact Put.here | apply Put.there | apply put_skip)) hnew (by omega) (fun s h => ?_)
      rw [List.append_assoc, ← e2] at h
      have h : St σ G ((T, tup [.int x tx, .int y ty]) :: ((Cc, fr [("b", .int y ty), ("a", .int x tx)]) :: (acc, dci prog w (Es ++ (lineNext pts l).take (j + 1))) :: (pc, cel (some (.ref Pp))) :: (Pp, dci prog w pts) :: (zipI z TI TO i1 i2 a a1 l (l.drop 1) (j + 1) ++ ((it, lit ll (i + 1)) :: (ll, lst (ls.map .ref)) :: (Lf, fr fl) :: (F1 ++ (R1 ++ R)))))) s := h
      have h := h.sub (List.sublist_cons_self _ _)
      exact ⟨_, ⟨_, rfl⟩, h.re⟩
    · rintro L' s ⟨lx, rfl⟩ h
      have hll2 : (lineNext pts l).take (l.drop 1).length = lineNext pts l := by
        rw [List.take_of_length_le]
        unfold lineNext
        rw [List.length_zipWith, List.length_tail, List.length_drop]
        omega
      rw [hll2, ← e] at h
      have h : St σ G ((Cc, fr []) :: (acc, dci prog w (nextP pts (lines.take (i + 1)))) :: (a1, ils (l.drop 1)) :: (it, lit ll (i + 1)) :: (ll, lst (ls.map .ref)) :: (Lf, fr fl) :: (pc, cel (some (.ref Pp))) :: (Pp, dci prog w pts) :: ((F1 ++ (a, ils l) :: R1) ++ R)) s := by
        have h : St σ G ((Cc, fr lx) :: (acc, dci prog w (nextP pts (lines.take (i + 1)))) :: (a1, ils (l.drop 1)) :: (it, lit ll (i + 1)) :: (ll, lst (ls.map .ref)) :: (Lf, fr fl) :: (pc, cel (some (.ref Pp))) :: (Pp, dci prog w pts) :: ((F1 ++ (a, ils l) :: R1) ++ R)) s := h.re
        exact h.frame [] []
      rw [← hsp] at h
      have h : St σ G ((a1, ils (l.drop 1)) :: ([(it, lit ll (i + 1)), (ll, lst (ls.map .ref))] ++ ((Cc, fr []) :: (acc, dci prog w (nextP pts (lines.take (i + 1)))) :: (Lf, fr fl) :: (pc, cel (some (.ref Pp))) :: (Pp, dci prog w pts) :: (seg ls lines ++ R)))) s := h.re
      exact ⟨_, rfl, h.sub (List.sublist_cons_self _ _)⟩
  · rintro L' s rfl h
    rw [List.length_map, hl, List.take_length] at h
    have h : St σ G ((Cc, fr []) :: (pc, cel (some (.ref Pp))) :: ((acc, dci prog w (nextP pts lines)) :: (Lf, fr fl) :: (Pp, dci prog w pts) :: (ll, lst (ls.map .ref)) :: (seg ls lines ++ R))) s := h.re
    refine ⟨_, _, h, fun s h => ?_⟩
    refine t_storeCell h (fun s h => k acc s ?_)
    have h : St σ G (((Pp, dci prog w pts) :: (ll, lst (ls.map .ref)) :: seg ls lines) ++ ((Lf, fr fl) :: (pc, cel (some (.ref acc))) :: (acc, dci prog w (nextP pts lines)) :: R)) s := h.re
    exact h.sub (List.sublist_append_right _ _)
end
end Mine

namespace Mine
open PySem PySem.W PySem.Calls PyProof.Rows

def valE : Stmt → Expr
  | .Assign _ v _ => v
  | _ => .Name "" default
def tgtE : Stmt → Expr
  | .Assign (t :: _) _ _ => t
  | _ => .Name "" default
def scopeE : Expr → Scope
  | .ListComp _ _ sc _ => sc
  | _ => default
def degK (es : List (Int × Int)) (names : List Int) : List (Int × Int) := names.map fun n => (n, ((predK es n).length : Int))
theorem degs_degK {es : List (Int × Int)} {names : List Int} {pr : List (List (Int × Value))} (hl : pr.length = names.length) (h : ∀ j n, names[j]? = some n → (pr.getD j []).map (·.1) = predK es n) : degs names pr = degK es names := by
  refine List.ext_getElem? (fun j => ?_)
  unfold degs degK
  rw [List.getElem?_zipWith, List.getElem?_map]
  cases hj : names[j]? with
  | none => rfl
  | some n =>
    have hj' := (List.getElem?_eq_some_iff.mp hj).1
    have hp : pr[j]? = some (pr[j]'(by omega)) := List.getElem?_eq_getElem (by omega)
    have := h j n hj
    rw [List.getD_eq_getElem?_getD, hp, Option.getD_some] at this
    rw [hp]
    have e := congrArg List.length this
    rw [List.length_map] at e
    simp [e]
theorem sorted_unique {l m : List Int} (hp : l.Perm m) (h1 : l.Pairwise (· ≤ ·)) (h2 : m.Pairwise (· < ·)) : l = m :=
  List.Perm.eq_of_pairwise (le := fun a b => a ≤ b) (fun a b _ _ x y => Int.le_antisymm x y) h1 (h2.imp Int.le_of_lt) hp

section
variable {prog : Program} {w : World} {A : Around} {σ s : Shared} {G : Array GenState → Prop} {L L' R : List Cell} {K : Frag} {mg : Str → Option Value} {env : Env}

theorem sh_lines (B : Base σ mg) (X : K.In σ.heap) (N : NF K) (V : NV K) (NGf : NG K) (GG : GF mg) (hAl : Alone σ) (hA : A.handled = none) (hd : A.depth ≤ 850) {q : Str} {fa : Option Addr} {cd : Value} {fm : Option Addr} {Lf pc nc x nd Sd Pd Nd Gd : Addr} {fl fl' : List (Str × Value)} {ns : List Int} {sa pa na : List Addr} {sr pr : List (List (Int × Value))}
    (hn : ns.Nodup) (hz : ns.length ≤ 20) (l1 : sa.length = ns.length) (l2 : pa.length = ns.length) (l0 : na.length = ns.length) (l3 : sr.length = ns.length) (l4 : pr.length = ns.length) (hpr : ∀ r ∈ pr, r.length ≤ 100) {F : Nat → GenState → Prop} {ex : List Nat} (hF : ∀ j, j ∉ ex → F j .finished)
    {suc : Int → List Int} (hs : ∀ j n, ns[j]? = some n → (sr.getD j []).map (·.1) = suc n) {gs : Nat → List (Int × Int) × List Int} {lines : List (List Int)} (KR : KRun suc ns gs lines.length) (hM : 0 < lines.length) (hML : lines.length ≤ 20) (hg0 : gs 0 = (ind0 (degs ns pr), zero0 (degs ns pr)))
    (hg : ∀ i l, lines[i]? = some l → (gs i).2.Perm l) (hasc : ∀ l ∈ lines, l.Pairwise (· < ·)) (hzl : ∀ l ∈ lines, l.length ≤ 20) (hf : (Str.ofString "net", Value.ref x) ∈ fl) (hdel : Del (Str.ofString "lines") fl fl') {Q : Flow → Shared → Prop}
    (h : St σ (GS F ex) ((Lf, fr fl) :: (net0 prog w x nd Sd Pd Nd Gd ns sa pa na sr pr ++ R)) s)
    (k : ∀ ll ls s', ls.length = lines.length → St σ (GS F ex) ((Lf, fr ((Str.ofString "lines", .ref ll) :: fl')) :: (ll, lst (ls.map .ref)) :: (seg ls lines ++ R)) s' → Q .next s') :
    Wc prog w A (exec (nthS shBody 6) (envS pc nc q fa cd fm Lf)) Q s := by
  obtain ⟨nm, ql, kV, doc, pm, an, cdv, ct, Fg⟩ := NGf.fTG.fn X
  refine c_assignListComp [] rfl (c_of (T_call (T_global B h GG.topo ?_)))
  refine T_withF Fg (T_args ?_)
  refine T_name h (.head _) hf (T_args0 ?_)
  refine T_callGen [("G", .ref x)] Fg B.lim (by omega) h (fun Lf2 ag g s h => ?_)
  obtain ⟨gens0, hG0, hgs, hpush⟩ := h.gens
  have hgF : F g .finished := hF g (fun hm => by
    have := hG0.2 g hm
    rw [hgs] at this
    exact Nat.lt_irrefl _ this)
  have h : St σ (tgG prog w A σ F ex g (.func tgB (envM tgScope [] (ql ++ ".<locals>.") (some 75) cdv (some Lf2) Lf2)) lines.length (tgI prog w Lf2 x nd Sd Pd Nd Gd (refs ns sa) (refs ns na) suc ns gs) (tgV gs) 0 []) ((ag, gob g) :: (Lf2, fr [("G", .ref x)]) :: (Lf, fr fl) :: (net0 prog w x nd Sd Pd Nd Gd ns sa pa na sr pr ++ R)) s :=
    h.regen (gens' := s.gens) (by
      show GS (upF F g (· = .fresh _)) (g :: ex) s.gens
      rw [hpush, hgs]
      exact hG0.push rfl)
  refine T_iterGen h (.head _) ?_
  refine c_crunUse (P0 := lst []) (G' := GS F ex) h (fun Q k => T_newList h (fun a s h => k a s h)) (fun acc Cc s h => ?_)
  have S := tg_src (prog := prog) (w := w) (A := A) B X N V NGf hAl hA hd GG.len GG.iter GG.hasattr GG.inDeg GG.notFound (q := ql ++ ".<locals>.") (fa := some 75) (cd := cdv) (fm := some Lf2) (Lf := Lf2) (x := x) (nd := nd) (Sd := Sd) (Pd := Pd) (Nd := Nd) (Gd := Gd) hn (by omega) l1 l2 l0 l3 l4 hpr hF hs KR hM hg0 ag g hgF
  have main : codeC prog w A (.compLoop (valE (nthS shBody 6)) 0 (.ref ag) (.ref acc) (compEnvC (scopeE (valE (nthS shBody 6))) [] Cc (envS pc nc q fa cd fm Lf))) (fun _ s' => W prog w A (assign (tgtE (nthS shBody 6)) (envS pc nc q fa cd fm Lf) (.ref acc)) (fun _ s₂ => ∃ lx L'', St σ (GS F ex) ((Cc, fr lx) :: L'') s₂ ∧ ∀ s₃, St σ (GS F ex) L'' s₃ → Q .next s₃) s') s := by
    refine c_compLoop (turn_L1 ..) (S _ ⟨[], 0, _, .inr ⟨_, rfl⟩⟩) (fun i L' => ∃ ls, ls.length = i ∧ L' = (Cc, fr []) :: (acc, lst (ls.map .ref)) :: (Lf, fr fl) :: (seg ls (lines.take i) ++ R)) (X := (ag, gob g) :: ((Lf2, fr [("G", .ref x)]) :: net0 prog w x nd Sd Pd Nd Gd ns sa pa na sr pr)) (L := (Cc, fr []) :: (acc, lst []) :: (Lf, fr fl) :: R) ⟨_, rfl, rfl⟩ (h.re) ⟨[], rfl, rfl⟩ ?_ ?_
    · rintro i v W X2 L' s hi ⟨gl, rfl, rfl⟩ ⟨ls, hls, rfl⟩ hX2 h
      have hli : lines[i]? = some lines[i] := List.getElem?_eq_getElem hi
      have hpm := hg i _ hli
      have hll := hzl _ (List.mem_of_getElem? hli)
      have hlen := hpm.length_eq
      refine T_assignN ?_
      have h : St σ _ ((Cc, fr []) :: (gl, ils (gs i).2) :: (acc, lst (ls.map .ref)) :: (X2 ++ ((Lf, fr fl) :: (seg ls (lines.take i) ++ R)))) s := h.re
      refine t_store h (fun s h => T_tests0 ?_)
      refine ite_yes rfl ?_
      refine T_emitList (T_call (T_builtin B h GG.sorted (v := .builtin "sorted") (by decide +kernel) ?_))
      refine T_with1 (T_args ?_)
      refine t_name h (T_args0 ?_)
      refine I_sorted (l := gl) h (by repeat (first | exact List.Mem.head _ | apply List.Mem.tail | apply List.mem_append_right _)) (by omega) (fun a ns' s p1 p2 h => ?_)
      have en : ns' = lines[i] := sorted_unique (p1.trans hpm) p2 (hasc _ (List.mem_of_getElem? hli))
      subst en
      refine t_append (l := acc) h (fun s h => ?_) (hz := by rw [List.length_map]; omega)
      rw [show ls.map Value.ref ++ [Value.ref a] = (ls ++ [a]).map Value.ref by simp] at h
      have e : seg (ls ++ [a]) (lines.take (i + 1)) = seg ls (lines.take i) ++ [(a, ils lines[i])] := by
        rw [List.take_add_one, hli]
        exact seg_snoc (by rw [List.length_take]; omega) a _
      have h := (h.pick (E := [_, _, _, _]) (R := X2 ++ ((Lf, fr fl) :: (seg ls (lines.take i) ++ R))) [1, 0, 3]).frame [] []
      refine ⟨_, ⟨ls ++ [a], by simp [hls], rfl⟩, ?_⟩
      rw [e]
      exact St.re (L := (Cc, fr []) :: (a, ils lines[i]) :: (acc, lst ((ls ++ [a]).map .ref)) :: (X2 ++ ((Lf, fr fl) :: (seg ls (lines.take i) ++ R)))) h
    · rintro X2 L' s - ⟨ls, hls, rfl⟩ h
      rw [List.take_length] at h
      have h := h.sub (List.sublist_append_right _ _)
      refine T_assignN ?_
      refine T_storeName h hdel (.there (.there .here)) (fun s h => ⟨_, _, h, fun s h => k acc ls s hls (St.re (L := (acc, lst (ls.map .ref)) :: (Lf, fr ((Str.ofString "lines", .ref acc) :: fl')) :: (seg ls lines ++ R)) h)⟩)
  exact c_compStart rfl rfl main (T_iterGen h (by repeat (first | exact List.Mem.head _ | apply List.Mem.tail | apply List.mem_append_right _)) main)
end
end Mine

namespace Mine
open PySem PySem.W PySem.Calls PyProof.Rows

/-- what the plain law says of a round -/
structure RoundOk (pts : List (Int × Int)) (lines : List (List Int)) : Prop where
  run : ∀ names : List Int, names.Perm (pts.map (·.1)) → ∃ gs, KRun (succK (edges pts names)) names gs lines.length ∧ gs 0 = (ind0 (degK (edges pts names) names), zero0 (degK (edges pts names) names)) ∧ ∀ i l, lines[i]? = some l → (gs i).2.Perm l
  asc : ∀ l ∈ lines, l.Pairwise (· < ·)
  pos : 0 < lines.length
  ne : ∀ l ∈ lines, l ≠ []
  sub : ∀ l ∈ lines, ∀ n ∈ l, n ∈ pts.map (·.1)
  nd : (pts.map (·.1)).Nodup
  nx : ((nextP pts lines).map (·.1)).Nodup
  less : (nextP pts lines).length < pts.length
  zl : lines.length ≤ pts.length
  zll : ∀ l ∈ lines, l.length ≤ pts.length

theorem kVal_of_mem {pts : List (Int × Int)} {n : Int} (h : n ∈ pts.map (·.1)) : (kVal pts n).isSome = true := by
  obtain ⟨p, hp, rfl⟩ := List.mem_map.mp h
  unfold kVal
  rw [Option.isSome_map, List.find?_isSome]
  exact ⟨p, hp, by simp⟩
theorem edges_mem {pts : List (Int × Int)} {names : List Int} {e : Int × Int} : e ∈ edges pts names ↔ e.1 ∈ names ∧ e.2 ∈ names ∧ eHit pts e.1 e.2 = true := by
  unfold edges eOf
  simp only [List.mem_flatMap, List.mem_map, List.mem_filter]
  constructor
  · rintro ⟨a, ha, b, ⟨hb, he⟩, rfl⟩; exact ⟨ha, hb, he⟩
  · rintro ⟨h1, h2, h3⟩; exact ⟨e.1, h1, e.2, ⟨h2, h3⟩, rfl⟩
theorem edges_nodup {pts : List (Int × Int)} {names : List Int} (hn : names.Nodup) : (edges pts names).Nodup := by
  have key : ∀ l : List Int, l.Nodup → (l.flatMap (eOf pts names)).Nodup := by
    intro l
    induction l with
    | nil => intro _; exact List.nodup_nil
    | cons a r ih =>
      intro hl
      rw [List.nodup_cons] at hl
      rw [List.flatMap_cons, List.nodup_append]
      refine ⟨?_, ih hl.2, ?_⟩
      · unfold eOf
        exact List.Pairwise.map _ (fun x y hxy e => hxy (Prod.mk.inj e).2) (hn.filter _)
      · intro x hx y hy e
        subst e
        unfold eOf at hx hy
        simp only [List.mem_flatMap, List.mem_map] at hx hy
        obtain ⟨b, _, rfl⟩ := hx
        obtain ⟨a', ha', b', _, e⟩ := hy
        exact hl.1 ((Prod.mk.inj e).1 ▸ ha')
  exact key names hn
theorem edges_len {pts : List (Int × Int)} {names : List Int} (hz : names.length ≤ 10) : (edges pts names).length ≤ 100 := by
  have q := flat_len (pts := pts) (ms := names) names
  have q2 : names.length * names.length ≤ 10 * 10 := Nat.mul_le_mul hz hz
  unfold edges
  omega

section
variable {prog : Program} {w : World} {A : Around} {σ s : Shared} {G : Array GenState → Prop} {L L' R : List Cell} {K : Frag} {mg : Str → Option Value} {env : Env}

def shFl (ra pa : Addr) (turn : Int) (tt : Tok) : List (Str × Value) := [("rows", .ref ra), ("places", .ref pa), ("turn", .int turn tt)]

theorem sh_round (B : Base σ mg) (X : K.In σ.heap) (N : NF K) (V : NV K) (NGf : NG K) (GG : GF mg) (hkp : keepIn K (.ref cDi) = true) (hAl : Alone σ) (hA : A.handled = none) (hd : A.depth ≤ 850) {q : Str} {fa : Option Addr} {cd : Value} {fm : Option Addr} {Lf pc nc Pp ra pa : Addr} {i turn : Int} {ti tt : Tok} {nv : Option Value} {pts : List (Int × Int)} {lines rows0 pls0 : List (List Int)} {as bs : List Addr}
    (RO : RoundOk pts lines) (hz : pts.length ≤ 10) (ha : as.length = rows0.length) (hb : bs.length = pls0.length) (hza : as.length ≤ 100) (hzb : bs.length ≤ 100) {F : Nat → GenState → Prop} {ex : List Nat} (hF : ∀ j, j ∉ ex → F j .finished) {Q : Flow → Shared → Prop}
    (h : St σ (GS F ex) ((Lf, fr (("_", .int i ti) :: shFl ra pa turn tt)) :: (pc, cel (some (.ref Pp))) :: (nc, cel nv) :: (Pp, dci prog w pts) :: (ra, lst (as.map .ref)) :: (pa, lst (bs.map .ref)) :: (seg as rows0 ++ (seg bs pls0 ++ R))) s)
    (k : ∀ Pq nr np nv' s', St σ (GS F ex) ((Lf, fr (shFl ra pa turn tt)) :: (pc, cel (some (.ref Pq))) :: (nc, cel nv') :: (Pq, dci prog w (nextP pts lines)) :: (ra, lst ((as ++ [nr]).map .ref)) :: (pa, lst ((bs ++ [np]).map .ref)) :: (seg (as ++ [nr]) (rows0 ++ [rowOf pts lines]) ++ (seg (bs ++ [np]) (pls0 ++ [plOf lines]) ++ R))) s' → Q .next s') :
    Wc prog w A (execs shBody (envS pc nc q fa cd fm Lf)) Q s := by
  have hptne : pts ≠ [] := fun e => by have := RO.less; rw [e] at this; exact Nat.not_lt_zero _ this
  refine c_cons (c_of (T_if (T_isNot (T_isName ?_))))
  refine t_cell h ?_
  refine K_truthy (D := Pp) h (by repeat (first | exact List.Mem.head _ | apply List.Mem.tail | apply List.mem_append_right _)) (by omega) (fun s h => ?_)
  refine ite_no (by cases pts with | nil => exact absurd rfl hptne | cons _ _ => rfl) (T_nil ?_)
  refine c_cons (c_of (sh_sorted B GG hA (by omega) h (fun nl ns s hp h => ?_)))
  have hlen : ns.length = pts.length := by rw [hp.length_eq, List.length_map]
  have hnne : ns ≠ [] := fun e => by rw [e] at hlen; exact hptne (List.eq_nil_of_length_eq_zero hlen.symm)
  have h : St σ (GS F ex) ((Lf, fr (("_", .int i ti) :: shFl ra pa turn tt)) :: (nc, cel (some (.ref nl))) :: (nl, ils ns) :: ((pc, cel (some (.ref Pp))) :: (Pp, dci prog w pts) :: (ra, lst (as.map .ref)) :: (pa, lst (bs.map .ref)) :: (seg as rows0 ++ (seg bs pls0 ++ R)))) s := h.re
  refine c_cons (c_of (sh_turn B GG hA (by omega) hnne (show (Str.ofString "turn", Value.int turn tt) ∈ (("_", Value.int i ti) :: shFl ra pa turn tt : List (Str × Value)) from .tail _ (.tail _ (.tail _ (.head _)))) h (fun nl names s hp2 h => ?_)))
  have hpn := hp2.trans hp
  have hnn : names.Nodup := hpn.nodup_iff.mpr RO.nd
  have hnl : names.length = pts.length := by rw [hpn.length_eq, List.length_map]
  have hkn : ∀ n ∈ names, (kVal pts n).isSome = true := fun n hn => kVal_of_mem (hpn.mem_iff.mp hn)
  -- net = DiGraph()
  refine c_cons (c_of (T_assignName (T_call (T_global B h GG.di ?_))))
  refine T_withK0 (X.keeps h.keep) hkp ?_
  refine T_make X N.di N.diInit N.fInit.isFn h (by omega) _ (fun A' x nd s hd' hA' h => ?_)
  refine call_init B X N hd' h (fun Sd Pd Nd Gd s h => ⟨rfl, ?_⟩)
  refine t_store h (fun s h => ?_)
  -- add_nodes_from
  refine c_cons (c_of (T_expr (T_method ?_)))
  refine t_name h ?_
  refine T_getMethodFn X N.di N.mAddN N.fAddN.isFn h (x := x) (dx := nd) (by repeat (first | exact List.Mem.head _ | apply List.Mem.tail | apply List.mem_append_right _)) (by repeat (first | exact List.Mem.head _ | apply List.Mem.tail | apply List.mem_append_right _)) rfl ?_
  obtain ⟨nm, ql, kV, doc, pm, an, cdv, ct, Fa⟩ := N.fAddN.fn X
  refine T_withF Fa (T_args (T_call (T_builtin B h GG.list (v := .type "list") (by decide +kernel) ?_)))
  refine T_withT (T_args ?_)
  refine t_cell h (T_args0 ?_)
  refine I_copy (l := nl) h (by repeat (first | exact List.Mem.head _ | apply List.Mem.tail | apply List.mem_append_right _)) (by omega) (fun cl s h => T_args0 ?_)
  generalize hfl : (("net", .ref x) :: ("_", .int i ti) :: shFl ra pa turn tt : List (Str × Value)) = fl at h
  have h : St σ (GS F ex) ((cl, ils names) :: (x, ins cDi nd) :: (nd, sd prog w (ndl Sd Pd Nd Gd)) :: (Sd, dct prog w []) :: (Pd, dct prog w []) :: (Nd, dct prog w []) :: ((Lf, fr fl) :: (nc, cel (some (.ref nl))) :: (nl, ils names) :: ((pc, cel (some (.ref Pp))) :: (Pp, dci prog w pts) :: (ra, lst (as.map .ref)) :: (pa, lst (bs.map .ref)) :: (seg as rows0 ++ (seg bs pls0 ++ R))))) s := by
    subst hfl
    refine St.re (L := (cl, ils names) :: (x, ins cDi nd) :: (nd, sd prog w (ndl Sd Pd Nd Gd)) :: (Sd, dct prog w []) :: (Pd, dct prog w []) :: (Nd, dct prog w []) :: (Lf, fr (("net", .ref x) :: ("_", .int i ti) :: shFl ra pa turn tt)) :: (nc, cel (some (.ref nl))) :: (nl, ils names) :: ((pc, cel (some (.ref Pp))) :: (Pp, dci prog w pts) :: (ra, lst (as.map .ref)) :: (pa, lst (bs.map .ref)) :: (seg as rows0 ++ (seg bs pls0 ++ R)))) h
  refine call_addNodes B X N hA (by omega) hnn (by omega) h (fun sa pa' na s l1 l2 l0 h => ?_)
  -- add_edges_from
  have hes := edges_len (pts := pts) (names := names) (by omega)
  refine c_cons (c_of (T_expr (T_method ?_)))
  refine T_name h (by repeat (first | exact List.Mem.head _ | apply List.Mem.tail | apply List.mem_append_right _)) (show (Str.ofString "net", Value.ref x) ∈ fl by rw [← hfl]; exact .head _) ?_
  refine T_getMethodFn X N.di N.mAddE N.fAddE.isFn h (x := x) (dx := nd) (by repeat (first | exact List.Mem.head _ | apply List.Mem.tail | apply List.mem_append_right _)) (by repeat (first | exact List.Mem.head _ | apply List.Mem.tail | apply List.mem_append_right _)) rfl ?_
  obtain ⟨nm', ql', kV', doc', pm', an', cdv', ct', Fb⟩ := N.fAddE.fn X
  refine T_withF Fb (T_args ?_)
  have h : St σ (GS F ex) ((pc, cel (some (.ref Pp))) :: (nc, cel (some (.ref nl))) :: (Pp, dci prog w pts) :: (nl, ils names) :: ((x, ins cDi nd) :: (nd, sd prog w (ndl Sd Pd Nd Gd)) :: (Sd, dct prog w (refs names sa)) :: (Pd, dct prog w (refs names pa')) :: (Nd, dct prog w (refs names na)) :: (nils prog w sa ++ (nils prog w pa' ++ ((cl, ils names) :: (Lf, fr fl) :: (ra, lst (as.map .ref)) :: (pa, lst (bs.map .ref)) :: (seg as rows0 ++ (seg bs pls0 ++ R))))))) s := h.re
  refine sh_edges hA (by omega) hkn h (fun el ts s hts h => T_args0 ?_)
  have h : St σ (GS F ex) ((el, lst (ts.map .ref)) :: (x, ins cDi nd) :: (nd, sd prog w (ndl Sd Pd Nd Gd)) :: (Sd, dct prog w (refs names sa)) :: (Pd, dct prog w (refs names pa')) :: (nils prog w sa ++ (nils prog w pa' ++ (segT ts (edges pts names) ++ ((pc, cel (some (.ref Pp))) :: (nc, cel (some (.ref nl))) :: (Pp, dci prog w pts) :: (nl, ils names) :: (Nd, dct prog w (refs names na)) :: (cl, ils names) :: (Lf, fr fl) :: (ra, lst (as.map .ref)) :: (pa, lst (bs.map .ref)) :: (seg as rows0 ++ (seg bs pls0 ++ R))))))) s := h.re
  refine call_addEdges B X N hA (by omega) GG.len hnn (edges_nodup hnn) (fun e he => ⟨(edges_mem.mp he).1, (edges_mem.mp he).2.1⟩) hes l1 l2 hts h (fun sr pr s l3 l4 hsp h => ?_)
  obtain ⟨gs, KR, hg0, hgp⟩ := RO.run names hpn
  have hdg := degs_degK (es := edges pts names) l4 (fun j n hj => (hsp j n hj).2)
  have hpr : ∀ r ∈ pr, r.length ≤ 100 := by
    intro r hr
    obtain ⟨j, hj, rfl⟩ := List.getElem_of_mem hr
    have e := (hsp j names[j] (List.getElem?_eq_getElem (by omega))).2
    rw [List.getD_eq_getElem?_getD, List.getElem?_eq_getElem hj, Option.getD_some] at e
    have e2 := congrArg List.length e
    unfold predK at e2
    rw [List.length_map, List.length_map] at e2
    have := List.length_filter_le (fun e : Int × Int => e.2 == names[j]) (edges pts names)
    omega
  have h : St σ (GS F ex) (((cl, ils names) :: (nl, ils names) :: [] : List Cell) ++ ((Lf, fr fl) :: (net0 prog w x nd Sd Pd Nd Gd names sa pa' na sr pr ++ ((pc, cel (some (.ref Pp))) :: (nc, cel (some (.ref nl))) :: (Pp, dci prog w pts) :: (ra, lst (as.map .ref)) :: (pa, lst (bs.map .ref)) :: (seg as rows0 ++ (seg bs pls0 ++ R)))))) s := by
    refine h.re (e := ?_)
    intro a; simp only [net0, cnt_cons, cnt_app, cnt_nil, Nat.zero_add, Nat.add_zero]; ac_rfl
  have h := h.sub (List.sublist_append_right _ _)
  have hfn : (Str.ofString "net", Value.ref x) ∈ fl := by rw [← hfl]; exact .head _
  refine c_cons (sh_lines (fl := fl) (fl' := fl) B X N V NGf GG hAl hA hd hnn (by omega) l1 l2 l0 l3 l4 hpr hF (fun j n hj => (hsp j n hj).1) KR RO.pos (by have := RO.zl; omega) (by rw [hdg]; exact hg0) hgp RO.asc (fun l hl => by have := RO.zll l hl; omega) hfn (by subst hfl; unfold shFl; repeat (first | exact Del.nil | apply Del.drop | (apply Del.keep; decide))) h (fun ll ls s hls h => ?_))
  have hkl : ∀ l ∈ lines, ∀ n ∈ l, (kVal pts n).isSome = true := fun l hl n hn => kVal_of_mem (RO.sub l hl n hn)
  have hzl := RO.zl
  have fR : (Str.ofString "rows", Value.ref ra) ∈ (Str.ofString "lines", Value.ref ll) :: fl := by rw [← hfl]; simp [shFl]
  have fP : (Str.ofString "places", Value.ref pa) ∈ (Str.ofString "lines", Value.ref ll) :: fl := by rw [← hfl]; simp [shFl]
  have fL : (Str.ofString "lines", Value.ref ll) ∈ (Str.ofString "lines", Value.ref ll) :: fl := .head _
  have h : St σ (GS F ex) ((Lf, fr ((Str.ofString "lines", .ref ll) :: fl)) :: (pc, cel (some (.ref Pp))) :: (Pp, dci prog w pts) :: (ra, lst (as.map .ref)) :: (ll, lst (ls.map .ref)) :: (seg ls lines ++ ((nc, cel (some (.ref nl))) :: (pa, lst (bs.map .ref)) :: (seg as rows0 ++ (seg bs pls0 ++ R))))) s := h.re
  refine c_cons (c_of (sh_rows B GG hA (by omega) hza hls RO.ne hkl fR fL h (fun nr s h => ?_)))
  have h : St σ (GS F ex) ((Lf, fr ((Str.ofString "lines", .ref ll) :: fl)) :: (pa, lst (bs.map .ref)) :: (ll, lst (ls.map .ref)) :: (seg ls lines ++ ((pc, cel (some (.ref Pp))) :: (Pp, dci prog w pts) :: (ra, lst ((as ++ [nr]).map .ref)) :: (nr, ils (rowOf pts lines)) :: (nc, cel (some (.ref nl))) :: (seg as rows0 ++ (seg bs pls0 ++ R))))) s := h.re
  refine c_cons (c_of (sh_places B GG hA (by omega) hzb hls RO.ne (fun l hl => by have := RO.zll l hl; omega) fP fL h (fun np s h => ?_)))
  have h : St σ (GS F ex) ((Lf, fr ((Str.ofString "lines", .ref ll) :: fl)) :: (pc, cel (some (.ref Pp))) :: (Pp, dci prog w pts) :: (ll, lst (ls.map .ref)) :: (seg ls lines ++ ((pa, lst ((bs ++ [np]).map .ref)) :: (np, ils (plOf lines)) :: (ra, lst ((as ++ [nr]).map .ref)) :: (nr, ils (rowOf pts lines)) :: (nc, cel (some (.ref nl))) :: (seg as rows0 ++ (seg bs pls0 ++ R))))) s := h.re
  refine c_cons (c_of (sh_next B GG hA hls (fun l hl => by have := RO.zll l hl; omega) hkl RO.nx (by have := RO.less; omega) fL h (fun Pq s h => ?_)))
  have e1 := seg_snoc ha nr (rowOf pts lines)
  have e2 := seg_snoc hb np (plOf lines)
  refine c_execsNil (k Pq nr np (some (.ref nl)) s ?_)
  have h := h.frame [] (shFl ra pa turn tt) (hl := by rw [← hfl]; simp [shFl])
  rw [e1, e2]
  exact St.re (L := (Lf, fr (shFl ra pa turn tt)) :: (pc, cel (some (.ref Pq))) :: (Pq, dci prog w (nextP pts lines)) :: ((pa, lst ((bs ++ [np]).map .ref)) :: (np, ils (plOf lines)) :: (ra, lst ((as ++ [nr]).map .ref)) :: (nr, ils (rowOf pts lines)) :: (nc, cel (some (.ref nl))) :: (seg as rows0 ++ (seg bs pls0 ++ R)))) h
end
end Mine

namespace Mine
open PySem PySem.W PySem.Calls PyProof.Rows

/-- the rounds, and what they tell -/
inductive Sh : List (Int × Int) → List (List Int) → List (List Int) → Prop
  | nil : Sh [] [] []
  | cons {pts : List (Int × Int)} {lines rows pls : List (List Int)} (h : RoundOk pts lines) (r : Sh (nextP pts lines) rows pls) : Sh pts (rowOf pts lines :: rows) (plOf lines :: pls)

section
variable {prog : Program} {w : World} {A : Around} {σ s : Shared} {G : Array GenState → Prop} {L L' R : List Cell} {K : Frag} {mg : Str → Option Value} {env : Env}

theorem K_len {D : Addr} {ind : List (Int × Int)} {Q : Value → Shared → Prop} (h : St σ G L s) (hD : (D, dci prog w ind) ∈ L) (hz : ind.length ≤ 1000) (k : ∀ t s', St σ G L s' → Q (.int ind.length t) s') : W prog w A (call (.builtin "len") [.ref D]) Q s := by
  obtain ⟨F, R, rfl⟩ := has_split hD
  obtain ⟨kvs, hkv, h'⟩ := St.openE (p := fun kvs => DV ind kvs) (P := dct prog w) h
  exact D_len h' (List.mem_append_right _ (.head _)) (by rw [hkv.length]; exact hz) (fun t s' hs => by rw [hkv.length]; exact k t s' (hs.shut fun o ho => dci_of hkv ho))

theorem sh_walk (B : Base σ mg) (X : K.In σ.heap) (N : NF K) (V : NV K) (NGf : NG K) (GG : GF mg) (hkp : keepIn K (.ref cDi) = true) (hAl : Alone σ) (hA : A.handled = none) (hd : A.depth ≤ 850) {q : Str} {fa : Option Addr} {cd : Value} {fm : Option Addr} {Lf pc nc dp : Addr} {turn : Int} {tt : Tok} {pts0 : List (Int × Int)} {ROWS PLS : List (List Int)}
    (S0 : Sh pts0 ROWS PLS) (hz : pts0.length ≤ 10) {F : Nat → GenState → Prop} {ex : List Nat} (hF : ∀ j, j ∉ ex → F j .finished) {Q : Flow → Shared → Prop}
    (h : St σ (GS F ex) ((Lf, fr [("turn", .int turn tt)]) :: (pc, cel (some (.ref dp))) :: (nc, cel none) :: (dp, dci prog w pts0) :: R) s)
    (k : ∀ ta ra pa as bs s', as.length = ROWS.length → bs.length = PLS.length → St σ (GS F ex) ((ta, tup [.ref ra, .ref pa]) :: (ra, lst (as.map .ref)) :: (pa, lst (bs.map .ref)) :: (seg as ROWS ++ (seg bs PLS ++ R))) s' → Q (.ret (.ref ta)) s') :
    Wc prog w A (execs shB (envS pc nc q fa cd fm Lf)) Q s := by
  refine c_cons (c_of (T_assignSwap ["rows", "places"] (T_tuple (T_args (T_list (T_args0 (T_newList h (fun ra s h => T_args (T_list (T_args0 (T_newList h (fun pa s h => T_args0 (T_newTuple h (fun ta s h => ?_))))))))))))))
  refine T_unpackItems hA h (fun s h => T_order (T_bind ?_))
  refine t_store h (fun s h => T_order (T_bind ?_))
  refine t_store h (fun s h => T_order0 ?_)
  -- the return
  have fin : ∀ (Pp : Addr) (nv : Option Value) (as bs : List Addr) (s : Shared), as.length = ROWS.length → bs.length = PLS.length →
      St σ (GS F ex) ((Lf, fr (shFl ra pa turn tt)) :: (pc, cel (some (.ref Pp))) :: (nc, cel nv) :: (Pp, dci prog w []) :: (ra, lst (as.map .ref)) :: (pa, lst (bs.map .ref)) :: (seg as ROWS ++ (seg bs PLS ++ R))) s → Wc prog w A (execs [nthS shB 2] (envS pc nc q fa cd fm Lf)) Q s := by
    intro Pp nv as bs s ha hb h
    refine c_cons (c_of (T_ret (T_tuple (T_args ?_))))
    refine T_name h (.head _) (by unfold shFl; exact .head _) (T_args ?_)
    refine T_name h (.head _) (by unfold shFl; exact .tail _ (.head _)) (T_args0 (T_newTuple h (fun tb s h => ?_)))
    exact k tb ra pa as bs s ha hb (h.pick (E := [_, _, _, _, _, _, _]) (R := seg as ROWS ++ (seg bs PLS ++ R)) [0, 5, 6])
  refine c_cons (c_for (T_call (T_builtin B h GG.range bt_range ?_)))
  refine T_withT (T_args (T_call (T_builtin B h GG.len bt_len ?_)))
  refine T_with1 (T_args ?_)
  refine t_cell h (T_args0 ?_)
  refine K_len (D := dp) h (by repeat (first | exact List.Mem.head _ | apply List.Mem.tail | apply List.mem_append_right _)) (by omega) (fun t' s h => T_args0 ?_)
  refine T_range1 h (fun r s h => ?_)
  refine T_iterRange0 (n := pts0.length) h (fun it s h => ?_)
  have h : St σ (GS F ex) ([(r, rngP 0 pts0.length), (ta, tup [.ref ra, .ref pa])] ++ ([(it, rit (0 + ((0 : Nat) : Int)) ((pts0.length : Int) - ((0 : Nat) : Int)) 1)] ++ ((Lf, fr (shFl ra pa turn tt)) :: (pc, cel (some (.ref dp))) :: (nc, cel none) :: (dp, dci prog w pts0) :: (ra, lst []) :: (pa, lst []) :: R))) s := by
    refine St.re (L := (it, rit (0 + ((0 : Nat) : Int)) ((pts0.length : Int) - ((0 : Nat) : Int)) 1) :: (r, rngP 0 pts0.length) :: (ta, tup [.ref ra, .ref pa]) :: (pa, lst []) :: (ra, lst []) :: (Lf, fr (shFl ra pa turn tt)) :: (pc, cel (some (.ref dp))) :: (nc, cel none) :: (dp, dci prog w pts0) :: R) h
  have h := h.sub (List.sublist_append_right _ _)
  refine c_loop (Src.range0 (σ := σ) (G := GS F ex) (A := A) hA it pts0.length _ _) (fun i L' => ∃ Pp nv as bs rows0 pls0 pts rowsR plsR, Sh pts rowsR plsR ∧ rows0 ++ rowsR = ROWS ∧ pls0 ++ plsR = PLS ∧ as.length = rows0.length ∧ bs.length = pls0.length ∧ rows0.length ≤ i ∧ pls0.length ≤ i ∧ pts.length + i ≤ pts0.length ∧
      L' = (Lf, fr (shFl ra pa turn tt)) :: (pc, cel (some (.ref Pp))) :: (nc, cel nv) :: (Pp, dci prog w pts) :: (ra, lst (as.map .ref)) :: (pa, lst (bs.map .ref)) :: (seg as rows0 ++ (seg bs pls0 ++ R)))
    h ⟨dp, none, [], [], [], [], pts0, ROWS, PLS, S0, rfl, rfl, rfl, rfl, Nat.le_refl _, Nat.le_refl _, by omega, rfl⟩ ?_ ?_
  · rintro i v W L' s hi ⟨⟨ti, rfl⟩, rfl⟩ ⟨Pp, nv, as, bs, rows0, pls0, pts, rowsR, plsR, S, e1, e2, ha, hb, hr, hp, hl, rfl⟩ h
    refine T_assignN ?_
    have h : St σ (GS F ex) ((Lf, fr (shFl ra pa turn tt)) :: (pc, cel (some (.ref Pp))) :: (nc, cel nv) :: (Pp, dci prog w pts) :: (ra, lst (as.map .ref)) :: (pa, lst (bs.map .ref)) :: (seg as rows0 ++ (seg bs pls0 ++ ((it, rit (0 + ((i + 1 : Nat) : Int)) ((pts0.length : Int) - ((i + 1 : Nat) : Int)) 1) :: R)))) s := h.re
    refine T_storeName (l := shFl ra pa turn tt) (l' := shFl ra pa turn tt) h (by unfold shFl; repeat (first | exact Del.nil | apply Del.drop | (apply Del.keep; decide))) .here (fun s h => ?_)
    cases S with
    | nil =>
      refine c_cons (c_of (T_if (T_isNot (T_isName ?_))))
      refine t_cell h ?_
      refine K_truthy (D := Pp) h (by repeat (first | exact List.Mem.head _ | apply List.Mem.tail | apply List.mem_append_right _)) (by simp) (fun s h => ?_)
      refine ite_yes rfl (T_cons (T_break ?_))
      rw [List.append_nil] at e1 e2
      subst e1 e2
      have h := h.frame [] (shFl ra pa turn tt) (hl := by simp [shFl])
      have h : St σ (GS F ex) ((it, rit (0 + ((i + 1 : Nat) : Int)) ((pts0.length : Int) - ((i + 1 : Nat) : Int)) 1) :: ((Lf, fr (shFl ra pa turn tt)) :: (pc, cel (some (.ref Pp))) :: (nc, cel nv) :: (Pp, dci prog w []) :: (ra, lst (as.map .ref)) :: (pa, lst (bs.map .ref)) :: (seg as rows0 ++ (seg bs pls0 ++ R)))) s :=
        St.re (L := (Lf, fr (shFl ra pa turn tt)) :: (pc, cel (some (.ref Pp))) :: (nc, cel nv) :: (Pp, dci prog w []) :: (ra, lst (as.map .ref)) :: (pa, lst (bs.map .ref)) :: (seg as rows0 ++ (seg bs pls0 ++ ((it, rit (0 + ((i + 1 : Nat) : Int)) ((pts0.length : Int) - ((i + 1 : Nat) : Int)) 1) :: R)))) h
      exact fin Pp nv as bs s ha hb (h.sub (List.sublist_cons_self _ _))
    | @cons _ lines rows pls RO S' =>
      have hless := RO.less
      refine sh_round B X N V NGf GG hkp hAl hA hd RO (by omega) ha hb (by omega) (by omega) hF h (fun Pq nr np nv' s h => ?_)
      refine ⟨_, ⟨Pq, nv', as ++ [nr], bs ++ [np], rows0 ++ [rowOf pts lines], pls0 ++ [plOf lines], nextP pts lines, rows, pls, S', by rw [List.append_assoc]; exact e1, by rw [List.append_assoc]; exact e2, by simp [ha], by simp [hb], by simp; omega, by simp; omega, by omega, rfl⟩, h.re⟩
  · rintro L' s ⟨Pp, nv, as, bs, rows0, pls0, pts, rowsR, plsR, S, e1, e2, ha, hb, hr, hp, hl, rfl⟩ h
    have hp0 : pts = [] := List.eq_nil_of_length_eq_zero (by omega)
    subst hp0
    cases S with
    | nil =>
      rw [List.append_nil] at e1 e2
      subst e1 e2
      exact fin Pp nv as bs s ha hb h
    | cons RO S' => exact absurd RO.less (Nat.not_lt_zero _)

theorem call_shadows (B : Base σ mg) (X : K.In σ.heap) (N : NF K) (V : NV K) (NGf : NG K) (GG : GF mg) (hkp : keepIn K (.ref cDi) = true) (FK : FnK K 957 (top 31) .none) (hAl : Alone σ) (hA : A.handled = none) (hd : A.depth ≤ 840) {dp : Addr} {turn : Int} {tt : Tok} {pts0 : List (Int × Int)} {ROWS PLS : List (List Int)}
    (S0 : Sh pts0 ROWS PLS) (hz : pts0.length ≤ 10) {F : Nat → GenState → Prop} {ex : List Nat} (hF : ∀ j, j ∉ ex → F j .finished) {Q : Value → Shared → Prop}
    (h : St σ (GS F ex) ((dp, dci prog w pts0) :: R) s)
    (k : ∀ ta ra pa as bs s', as.length = ROWS.length → bs.length = PLS.length → St σ (GS F ex) ((ta, tup [.ref ra, .ref pa]) :: (ra, lst (as.map .ref)) :: (pa, lst (bs.map .ref)) :: (seg as ROWS ++ (seg bs PLS ++ R))) s' → Q (.ref ta) s') :
    CallC prog w A σ 957 [.ref dp, .int turn tt] Q s := by
  obtain ⟨nm, ql, kV, doc, pm, an, cdv, ct, Fa⟩ := FK.fn X
  refine C_callC [("points", .ref dp), ("turn", .int turn tt)] [("turn", .int turn tt)] (fun n => [("names", n + 1), ("points", n)]) (fun x => ([("points", Value.ref dp)] : List (Str × Value)).lookup x) Fa B.lim (by omega) h (fun Lf s h => ?_)
  have h : St σ (GS F ex) ((Lf, fr [("turn", .int turn tt)]) :: (Lf + 1, cel (some (.ref dp))) :: (Lf + 1 + 1, cel none) :: (dp, dci prog w pts0) :: R) s := St.re (L := (Lf, fr [("turn", .int turn tt)]) :: (Lf + 1 + 1, cel none) :: (Lf + 1, cel (some (.ref dp))) :: (dp, dci prog w pts0) :: R) h
  exact sh_walk (A := A.deeper (callEnvC (fnOf nm ql (paramsOf (top 31)) shB shScope .none kV doc pm an cdv ct) Lf 957)) (q := ql ++ ".<locals>.") (fa := some 957) (cd := cdv) (fm := some Lf) (Q := fun f s'' => Q (retV f) s'') B X N V NGf GG hkp hAl hA (by show A.depth + 1 ≤ 850; omega) S0 hz hF h k
end
end Mine

namespace Mine
open PySem PySem.W PySem.Calls PyProof.Rows

def lawB : List Stmt := bodyOf (top 32)
def lawScope : Scope := scopeOf (top 32)
abbrev envL (lc sc : Addr) (q : Str) (fa : Option Addr) (cd : Value) (fm : Option Addr) (Lf : Addr) : Env := envM lawScope [("left", lc), ("script", sc)] q fa cd fm Lf
def restL : List Int := [3, 4, 0, 2, 1, 1, 0, 2, 1, 0, 3]
def drawAt (ns : List Int) (k : Nat) : Int := if k < ns.length then ns.getD k 0 else restL.getD k 0
def draws (ns : List Int) : List Int := (List.range 11).map (drawAt ns)
def lawN (d0 : Int) : Nat := (4 + d0.fmod 6).toNat
def upTo (n : Nat) : List Int := (List.range n).map fun (i : Nat) => (i : Int)
def popOne (st : List Int × List Int) (x : Int) : List Int × List Int := (st.1.eraseIdx (x.fmod st.1.length).toNat, st.2 ++ [st.1.getD (x.fmod st.1.length).toNat 0])
def popAll (left nums : List Int) : List Int × List Int := nums.foldl popOne (left, [])
theorem popAll_take {left nums : List Int} {i : Nat} {x : Int} (h : nums[i]? = some x) : popAll left (nums.take (i + 1)) = popOne (popAll left (nums.take i)) x := by
  unfold popAll
  rw [List.take_add_one, h, Option.toList_some, List.foldl_append]; rfl
theorem popOne_len {st : List Int × List Int} {x : Int} (h : 0 < st.1.length) : (popOne st x).1.length = st.1.length - 1 ∧ (popOne st x).2.length = st.2.length + 1 := by
  obtain ⟨a, b⟩ := fmod_bounds x (n := st.1.length) (by omega)
  unfold popOne
  refine ⟨?_, by simp⟩
  dsimp only
  rw [List.length_eraseIdx, if_pos (by omega)]
theorem popAll_len {left nums : List Int} : ∀ i, i ≤ nums.length → i ≤ left.length → (popAll left (nums.take i)).1.length = left.length - i ∧ (popAll left (nums.take i)).2.length = i
  | 0, _, _ => ⟨rfl, rfl⟩
  | i + 1, h1, h2 => by
    obtain ⟨a, b⟩ := popAll_len (left := left) (nums := nums) i (by omega) (by omega)
    have hx : nums[i]? = some nums[i] := List.getElem?_eq_getElem (by omega)
    rw [popAll_take hx]
    obtain ⟨c, d⟩ := popOne_len (st := popAll left (nums.take i)) (x := nums[i]) (by omega)
    omega
theorem lawN_bounds (d : Int) : 4 ≤ lawN d ∧ lawN d ≤ 9 ∧ (lawN d : Int) = 4 + d.fmod 6 := by
  have h1 := Int.fmod_nonneg_of_pos d (b := 6) (by decide)
  have h2 := Int.fmod_lt_of_pos d (b := 6) (by decide)
  unfold lawN
  omega
theorem draws_at (ns : List Int) {k : Nat} (h : k < 11) : (draws ns)[k]? = some (drawAt ns k) := by
  unfold draws
  rw [List.getElem?_map, List.getElem?_range h]; rfl

/-- a list that stood before the call -/
structure OldL (σ : Shared) (a : Addr) (ns : List Int) : Prop where
  is : ∃ vs, σ.heap.IsList a vs.toArray ∧ IntsAre vs ns
  len : ns.length ≤ 1000
/-- the law's table -/
def RestK (K : Frag) : Prop := ∃ o n items, K.lookup 947 = some o ∧ o.cls = .type "tuple" ∧ o.data = .seq items n ∧ IntsAre items.toList restL

section
variable {prog : Program} {w : World} {A : Around} {σ s : Shared} {G : Array GenState → Prop} {L L' R : List Cell} {K : Frag} {mg : Str → Option Value} {env : Env}

theorem OldL.here {a : Addr} {ns : List Int} (O : OldL σ a ns) (h : St σ G L s) : ∃ vs, s.heap.IsList a vs.toArray ∧ IntsAre vs ns := by
  obtain ⟨vs, ⟨o, ho, r⟩, hv⟩ := O.is
  exact ⟨vs, ⟨o, h.keep _ _ ho, r⟩, hv⟩
theorem O_len {a : Addr} {ns : List Int} {Q : Value → Shared → Prop} (O : OldL σ a ns) (h : St σ G L s) (k : ∀ t s', St σ G L s' → Q (.int ns.length t) s') : W prog w A (call (.builtin "len") [.ref a]) Q s := by
  obtain ⟨vs, hl, hv⟩ := O.here h
  have e := hv.length
  have hz := O.len
  refine call_len_list hl (by simp only [List.size_toArray]; omega) ?_
  have := k (s.toks + 1) { s with toks := s.toks + 1 + 1 } (h.toks _)
  simpa [e] using this
theorem O_item {value slice : Expr} {a : Addr} {ns : List Int} {i : Int} {t : Tok} {x : Int} {Q : Value → Shared → Prop} (O : OldL σ a ns) (h : St σ G L s) (h0 : 0 ≤ i) (hx : ns[i.toNat]? = some x) (k : ∀ t, Q (.int x t) s)
    (hs : subscripted slice false (.ref a) (.int i t) = operate [.ref a, .int i t] (getItem (.ref a) (.int i t)) := by with_unfolding_all rfl) : W prog w A (subscriptTail value slice (.ref a) (.int i t)) Q s := by
  obtain ⟨vs, hl, hv⟩ := O.here h
  obtain ⟨u, hu⟩ := hv.get _ _ hx
  have hi : i.toNat < ns.length := (List.getElem?_eq_some_iff.mp hx).1
  have hz := O.len
  exact tail_any hl.typeIs slot_list_getitem.lookup (wpAny_getItem_list hl h0 (by omega) (by simpa using hu) (k u)) hs
theorem R_item {value slice : Expr} {i : Int} {t : Tok} {x : Int} {Q : Value → Shared → Prop} (X : K.In σ.heap) (RK : RestK K) (h : St σ G L s) (h0 : 0 ≤ i) (hx : restL[i.toNat]? = some x) (k : ∀ t, Q (.int x t) s)
    (hs : subscripted slice false (.ref 947) (.int i t) = operate [.ref 947, .int i t] (getItem (.ref 947) (.int i t)) := by with_unfolding_all rfl) : W prog w A (subscriptTail value slice (.ref 947) (.int i t)) Q s := by
  obtain ⟨o, n, items, ho, hc, hd, hv⟩ := RK
  have hT : s.heap.IsTuple 947 items := ⟨o, h.keep _ _ (X _ _ ho), hc, n, hd⟩
  obtain ⟨u, hu⟩ := hv.get _ _ hx
  have hi : i.toNat < restL.length := (List.getElem?_eq_some_iff.mp hx).1
  have h11 : restL.length = 11 := rfl
  have hsz : items.size = 11 := by have := hv.length; simpa [restL] using this
  have hj : seqIndex? i items.size = some i.toNat := seqIndex_of h0 (by omega)
  exact tail_any hT.typeIs PySem.F.slot_tuple_getitem.lookup (getItem_tuple hT (by omega) (by omega) hj (by simpa using hu) (k u)) hs

/-- draw = [..] -/
theorem law_draw (B : Base σ mg) (X : K.In σ.heap) (RK : RestK K) (GG : GF mg) (gr : mg "_law_rest" = some (.ref 947)) (hA : A.handled = none) {q : Str} {fa : Option Addr} {cd : Value} {fm : Option Addr} {Lf lc sc a : Addr} {ns : List Int} {Q : Flow → Shared → Prop} (O : OldL σ a ns)
    (h : St σ G ((Lf, fr []) :: (sc, cel (some (.ref a))) :: R) s)
    (k : ∀ dl s', St σ G ((Lf, fr [("draw", .ref dl)]) :: (sc, cel (some (.ref a))) :: (dl, ils (draws ns)) :: R) s' → Q .next s') :
    W prog w A (exec (nthS lawB 0) (envL lc sc q fa cd fm Lf)) Q s := by
  refine T_assignListComp [("script", sc)] rfl (T_call (T_builtin B h GG.range bt_range ?_))
  refine T_withT (T_args (T_int h (fun t s h => T_args0 ?_)))
  refine T_range1 h (fun r s h => ?_)
  refine T_iterRange0 (n := 11) h (fun it s h => ?_)
  refine T_crunUse (P0 := ils []) h (fun Q k => I_newList h .nil (fun a s h => k a s h)) (fun acc Cc s h => ?_)
  refine T_compStart1 rfl rfl (fun Q' q => T_iterRit h q) ?_
  refine T_compLoop (turn_L1 ..) (Src.range0 (σ := σ) (G := G) (A := A) hA it 11 _ _) (fun i L' => L' = (Cc, fr []) :: (acc, ils ((List.range i).map (drawAt ns))) :: (Lf, fr []) :: (sc, cel (some (.ref a))) :: (r, rngP 0 11) :: R) (h.re) rfl ?_ ?_
  · rintro i v W L' s hi ⟨⟨ti, rfl⟩, rfl⟩ rfl h
    have e : (List.range (i + 1)).map (drawAt ns) = (List.range i).map (drawAt ns) ++ [drawAt ns i] := by rw [List.range_succ, List.map_append]; rfl
    refine T_assignN ?_
    refine t_store h (fun s h => T_tests0 ?_)
    refine ite_yes rfl ?_
    refine T_emitList (T_ifExp (T_isCompare ?_))
    refine t_name h (T_call (T_builtin B h GG.len bt_len ?_))
    refine T_with1 (T_args ?_)
    refine t_cell h (T_args0 ?_)
    refine O_len O h (fun t2 s h => T_ltInt (T_truthyBool ?_))
    by_cases hlt : i < ns.length
    · refine ite_yes (decide_eq_true (by omega)) (T_sub ?_)
      refine t_cell h ?_
      refine t_name h ?_
      have hx : ns[((i : Nat) : Int).toNat]? = some (drawAt ns i) := by
        unfold drawAt
        rw [if_pos hlt, Int.toNat_natCast, List.getD_eq_getElem?_getD, List.getElem?_eq_getElem hlt]; rfl
      refine O_item O h (by omega) hx (fun t3 => ?_)
      refine i_append h (fun s h => ?_) (hz := by rw [List.length_map, List.length_range]; omega)
      rw [← e] at h
      exact ⟨_, rfl, h.frame [_] []⟩
    · refine ite_no (decide_eq_false (by omega)) (T_sub (T_global B h gr ?_))
      refine t_name h ?_
      have hx : restL[((i : Nat) : Int).toNat]? = some (drawAt ns i) := by
        unfold drawAt
        rw [if_neg hlt, Int.toNat_natCast, List.getD_eq_getElem?_getD, List.getElem?_eq_getElem (by show i < 11; exact hi)]; rfl
      refine R_item X RK h (by omega) hx (fun t3 => ?_)
      refine i_append h (fun s h => ?_) (hz := by rw [List.length_map, List.length_range]; omega)
      rw [← e] at h
      exact ⟨_, rfl, h.frame [_] []⟩
  · rintro L' s rfl h
    have h : St σ G ((Cc, fr []) :: (Lf, fr []) :: ((acc, ils (draws ns)) :: (sc, cel (some (.ref a))) :: (r, rngP 0 11) :: R)) s := h.re
    refine T_assignN ?_
    refine t_store h (fun s h => ?_)
    refine ⟨_, _, h, fun s h => k acc s ?_⟩
    have h : St σ G ((r, rngP 0 11) :: (Lf, fr [("draw", .ref acc)]) :: (sc, cel (some (.ref a))) :: (acc, ils (draws ns)) :: R) s :=
      St.re (L := (Lf, fr [("draw", .ref acc)]) :: (acc, ils (draws ns)) :: (sc, cel (some (.ref a))) :: (r, rngP 0 11) :: R) h
    exact h.sub (List.sublist_cons_self _ _)

/-- left = list(range(4 + draw[0] % 6)) -/
theorem law_left (B : Base σ mg) (GG : GF mg) (hA : A.handled = none) {q : Str} {fa : Option Addr} {cd : Value} {fm : Option Addr} {Lf lc sc dl : Addr} {ds : List Int} {d0 : Int} {lv : Option Value} {Q : Flow → Shared → Prop} (hds : ds.length ≤ 100) (h0 : ds[0]? = some d0)
    (h : St σ G ((Lf, fr [("draw", .ref dl)]) :: (lc, cel lv) :: (dl, ils ds) :: R) s)
    (k : ∀ ll s', St σ G ((Lf, fr [("draw", .ref dl)]) :: (lc, cel (some (.ref ll))) :: (dl, ils ds) :: (ll, ils (upTo (lawN d0))) :: R) s' → Q .next s') :
    W prog w A (exec (nthS lawB 1) (envL lc sc q fa cd fm Lf)) Q s := by
  obtain ⟨b1, b2, b3⟩ := lawN_bounds d0
  refine T_assignName (T_call (T_builtin B h GG.list (v := .type "list") (by decide +kernel) ?_))
  refine T_withT (T_args (T_call (T_builtin B h GG.range bt_range ?_)))
  refine T_withT (T_args (T_binop (T_int h (fun t1 s h => T_binop (T_sub ?_)))))
  refine t_name h (T_int h (fun t2 s h => ?_))
  refine i_item (l := dl) h (by decide) h0 (fun t3 => T_int h (fun t4 s h => ?_))
  refine T_modInt h (by decide) (fun t5 s h => T_addInt h (fun t6 s h => T_args0 ?_))
  refine T_range1 h (fun r s h => T_args0 ?_)
  rw [← b3] at h
  refine I_listRange (n := lawN d0) hA h (.head _) (by omega) (fun ll s h => ?_)
  refine t_storeCell h (fun s h => ?_)
  refine k ll s ?_
  have h : St σ G ((r, rngP 0 (lawN d0)) :: (Lf, fr [("draw", .ref dl)]) :: (lc, cel (some (.ref ll))) :: (dl, ils ds) :: (ll, ils (upTo (lawN d0))) :: R) s :=
    St.re (L := (ll, ils (upTo (lawN d0))) :: (r, rngP 0 (lawN d0)) :: (Lf, fr [("draw", .ref dl)]) :: (lc, cel (some (.ref ll))) :: (dl, ils ds) :: R) h
  exact h.sub (List.sublist_cons_self _ _)

/-- heights = [left.pop(..) ..] -/
theorem law_heights (B : Base σ mg) (GG : GF mg) (hA : A.handled = none) {q : Str} {fa : Option Addr} {cd : Value} {fm : Option Addr} {Lf lc sc dl ll : Addr} {ds left : List Int} {Q : Flow → Shared → Prop} (hds : ds.length ≤ 100) (hl : left.length + 1 ≤ ds.length)
    (h : St σ G ((Lf, fr [("draw", .ref dl)]) :: (lc, cel (some (.ref ll))) :: (dl, ils ds) :: (ll, ils left) :: R) s)
    (k : ∀ hl s', St σ G ((Lf, fr [("heights", .ref hl), ("draw", .ref dl)]) :: (dl, ils ds) :: (hl, ils (popAll left ((ds.drop 1).take left.length)).2) :: R) s' → Q .next s') :
    W prog w A (exec (nthS lawB 2) (envL lc sc q fa cd fm Lf)) Q s := by
  refine T_assignListComp [("left", lc)] rfl (I_slice (σ := σ) (G := G) ?_)
  refine t_name h (wpAny_evalPart_some (T_int h (fun t1 s h => wpAny_evalPart_some (T_binop (T_int h (fun t2 s h => T_call (T_builtin B h GG.len bt_len ?_)))))))
  refine T_with1 (T_args ?_)
  refine t_cell h (T_args0 ?_)
  refine i_len (l := ll) h (fun t3 s h => T_addInt h (fun t4 s h => ?_))
  have hsl : 1 + left.length - 1 = left.length := by omega
  have e1 : ((1 + left.length : Nat) : Int) = 1 + (left.length : Int) := by omega
  refine ⟨dl, ds, some ((1 : Nat) : Int), some ((1 + left.length : Nat) : Int), _, rfl, h, (by repeat (first | exact List.Mem.head _ | apply List.Mem.tail | apply List.mem_append_right _)), by omega, .int _ _, by rw [e1]; exact .int _ _, (ds.drop 1).take left.length, ?_, fun nl s h => ?_⟩
  · intro vs hv
    have := pick_run 1 (1 + left.length) (by omega) (by omega) hv
    rwa [hsl] at this
  have hnl : ((ds.drop 1).take left.length).length = left.length := by rw [List.length_take, List.length_drop]; omega
  generalize hnums : (ds.drop 1).take left.length = nums at h hnl k
  refine i_iter (l := nl) h (fun it s h => ?_)
  refine T_crunUse (P0 := ils []) h (fun Q k => I_newList h .nil (fun a s h => k a s h)) (fun acc Cc s h => ?_)
  refine T_compStart1 rfl rfl (fun Q' q => t_iterLit (l := nl) h q) ?_
  refine T_compLoop (turn_L1 ..) (Src.ints (σ := σ) (G := G) (A := A) hA it nl nums _ _) (fun i L' => L' = (Cc, fr []) :: (acc, ils (popAll left (nums.take i)).2) :: (Lf, fr [("draw", .ref dl)]) :: (lc, cel (some (.ref ll))) :: (dl, ils ds) :: (ll, ils (popAll left (nums.take i)).1) :: R) (h.re) rfl ?_ ?_
  · rintro i v W L' s hi ⟨x, tx, hx, rfl, rfl⟩ rfl h
    have e := popAll_take (left := left) hx
    obtain ⟨c1, c2⟩ := popAll_len (left := left) (nums := nums) i (by omega) (by omega)
    generalize hst : popAll left (nums.take i) = st at h e c1 c2
    obtain ⟨lt, hs⟩ := st
    dsimp only at c1 c2 h
    have hl0 : lt.length ≠ 0 := by omega
    obtain ⟨m0, m1⟩ := fmod_bounds x hl0
    have hxx : lt[(x.fmod lt.length).toNat]? = some (lt.getD (x.fmod lt.length).toNat 0) := by
      rw [List.getD_eq_getElem?_getD, List.getElem?_eq_getElem (by omega)]; rfl
    refine T_assignN ?_
    refine t_store h (fun s h => T_tests0 ?_)
    refine ite_yes rfl ?_
    refine T_emitList (T_method ?_)
    refine t_cell h ?_
    refine i_getPop (l := ll) h ?_
    refine T_with1 (T_args (T_binop ?_))
    refine t_name h (T_call (T_builtin B h GG.len bt_len ?_))
    refine T_with1 (T_args ?_)
    refine t_cell h (T_args0 ?_)
    refine i_len (l := ll) (ns := lt) h (fun t5 s h => T_modInt h (by omega) (fun t6 s h => T_args0 ?_))
    refine i_popAt (l := ll) h m0 hxx (fun t7 s h => ?_)
    refine i_append (l := acc) h (fun s h => ?_)
    rw [e]
    exact ⟨_, rfl, h.frame [_, _] []⟩
  · rintro L' s rfl h
    rw [List.take_length] at h
    have h : St σ G ((Cc, fr []) :: (Lf, fr [("draw", .ref dl)]) :: ((acc, ils (popAll left nums).2) :: (dl, ils ds) :: (lc, cel (some (.ref ll))) :: (nl, ils nums) :: (ll, ils (popAll left nums).1) :: R)) s := h.re
    refine T_assignN ?_
    refine t_store h (fun s h => ?_)
    refine ⟨_, _, h, fun s h => k acc s ?_⟩
    have h : St σ G ([(lc, cel (some (.ref ll))), (nl, ils nums), (ll, ils (popAll left nums).1)] ++ ((Lf, fr [("heights", .ref acc), ("draw", .ref dl)]) :: (dl, ils ds) :: (acc, ils (popAll left nums).2) :: R)) s :=
      St.re (L := (Lf, fr [("heights", .ref acc), ("draw", .ref dl)]) :: (acc, ils (popAll left nums).2) :: (dl, ils ds) :: (lc, cel (some (.ref ll))) :: (nl, ils nums) :: (ll, ils (popAll left nums).1) :: R) h
    exact h.sub (List.sublist_append_right _ _)
end
end Mine

namespace Mine
open PySem PySem.W PySem.Calls PyProof.Rows

def arg1 : Stmt → Expr
  | .Return (some (.Compare (.Call _ (e :: _) _ _) _ _ _)) _ => e
  | _ => .Name "" default
def swapPts (hs : List Int) : List (Int × Int) := hs.zipIdx.map fun p => (p.1, (p.2 : Int))
theorem swapPts_snoc (ns : List Int) (n : Int) : swapPts (ns ++ [n]) = swapPts ns ++ [(n, (ns.length : Int))] := by
  unfold swapPts
  rw [List.zipIdx_append, List.map_append]
  simp
theorem swapPts_keys (ns : List Int) : (swapPts ns).map (·.1) = ns := by
  unfold swapPts
  rw [List.map_map]
  show ns.zipIdx.map (fun p : Int × Nat => p.1) = _
  exact List.zipIdx_map_fst 0 ns
theorem swapPts_len (ns : List Int) : (swapPts ns).length = ns.length := by simp [swapPts]
def heightsOf (ns : List Int) : List Int := (popAll (upTo (lawN (drawAt ns 0))) (((draws ns).drop 1).take (upTo (lawN (drawAt ns 0))).length)).2
/-- what the plain law says -/
structure Plain (hs : List Int) : Prop where
  nd : hs.Nodup
  z : hs.length ≤ 10
  one : Sh (enumPts hs) (insSt hs hs.length).1 (insSt hs hs.length).2
  two : Sh (swapPts hs) (insSt hs hs.length).2 (insSt hs hs.length).1
structure GL (mg : Str → Option Value) : Prop where
  gf : GF mg
  rest : mg "_law_rest" = some (.ref 947)
  inserted : mg "_law_inserted" = some (.ref 952)
  shadows : mg "_law_shadows" = some (.ref 957)
structure NL (K : Frag) : Prop where
  nf : NF K
  nv : NV K
  ng : NG K
  keep : keepIn K (.ref cDi) = true
  rest : RestK K
  fIns : FnK K 952 (top 30) .none
  fSha : FnK K 957 (top 31) .none

section
variable {prog : Program} {w : World} {A : Around} {σ s : Shared} {G : Array GenState → Prop} {L L' R : List Cell} {K : Frag} {mg : Str → Option Value} {env : Env}

theorem law_ins (B : Base σ mg) (X : K.In σ.heap) (NN : NL K) (GG : GL mg) (hA : A.handled = none) (hd : A.depth ≤ 830) {q : Str} {fa : Option Addr} {cd : Value} {fm : Option Addr} {Lf lc sc dl hl : Addr} {hs : List Int} {Q : Flow → Shared → Prop} (hz : hs.length ≤ 100)
    (h : St σ G ((Lf, fr [("heights", .ref hl), ("draw", .ref dl)]) :: (hl, ils hs) :: R) s)
    (k : ∀ ta ra pa as bs rows pls s', as.length = rows.length → bs.length = pls.length → (rows, pls) = insSt hs hs.length → St σ G ((Lf, fr [("places", .ref pa), ("rows", .ref ra), ("heights", .ref hl), ("draw", .ref dl)]) :: (ta, tup [.ref ra, .ref pa]) :: (ra, lst (as.map .ref)) :: (pa, lst (bs.map .ref)) :: (hl, ils hs) :: (seg as rows ++ (seg bs pls ++ R))) s' → Q .next s') :
    W prog w A (exec (nthS lawB 3) (envL lc sc q fa cd fm Lf)) Q s := by
  obtain ⟨nm, ql, kV, doc, pm, an, cdv, ct, Fa⟩ := NN.fIns.fn X
  refine T_assign (T_call (T_global B h GG.inserted ?_))
  refine T_withF Fa (T_args ?_)
  refine t_name h (T_args0 ?_)
  have h : St σ G ((hl, ils hs) :: ((Lf, fr [("heights", .ref hl), ("draw", .ref dl)]) :: R)) s := h.re
  refine call_ins NN.fIns X B hA (by omega) GG.gf.enumerate GG.gf.range GG.gf.len hz h (fun ta ra pa as bs rows pls s a1 a2 a3 a4 a5 h => T_assignOne ?_)
  dsimp only
  refine T_assignTuple hA h (fun s h => T_order (T_assignN ?_))
  have h : St σ G ((Lf, fr [("heights", .ref hl), ("draw", .ref dl)]) :: (ta, tup [.ref ra, .ref pa]) :: (ra, lst (as.map .ref)) :: (pa, lst (bs.map .ref)) :: (hl, ils hs) :: (seg as rows ++ (seg bs pls ++ R))) s := h.re
  refine t_store h (fun s h => T_order (T_assignN ?_))
  refine t_store h (fun s h => T_order0 ?_)
  exact k ta ra pa as bs rows pls s a1 (by omega) a5 h

/-- {height: place for place, height in enumerate(heights)} -/
theorem law_comp (B : Base σ mg) (GG : GL mg) (hA : A.handled = none) {q : Str} {fa : Option Addr} {cd : Value} {fm : Option Addr} {Lf lc sc hl : Addr} {fl : List (Str × Value)} {hs : List Int} {Q : Value → Shared → Prop} (hz : hs.length ≤ 100) (hnd : hs.Nodup) (hf : (Str.ofString "heights", Value.ref hl) ∈ fl)
    (h : St σ G ((Lf, fr fl) :: (hl, ils hs) :: R) s)
    (k : ∀ d s', St σ G ((d, dci prog w (swapPts hs)) :: (Lf, fr fl) :: (hl, ils hs) :: R) s' → Q (.ref d) s') :
    W prog w A (eval (arg1 (nthS lawB 5)) (envL lc sc q fa cd fm Lf)) Q s := by
  refine T_dictComp [] rfl (T_call (T_builtin B h GG.gf.enumerate bt_enumerate ?_))
  refine T_withT (T_args ?_)
  refine T_name h (.head _) hf (T_args0 ?_)
  refine I_enumerate (l := hl) h (fun e it s h => ?_)
  refine T_iterEnm h ?_
  refine T_crun (P0 := dct prog w []) h (fun Q k => D_new h (fun a s h => k a s h)) (fun acc Cc s h => ?_)
  have h := St.shut (F := [_]) h (fun o ho => dci_nil ho)
  refine T_compStart1 rfl rfl (fun Q' q => T_iterEnm (e := e) h q) ?_
  refine T_compLoop (turn_D1 ..) (Src.enumInts (σ := σ) (G := G) (A := A) hA e it hl hs _ _ _) (fun i L' => L' = (Cc, fr []) :: (acc, dci prog w (swapPts (hs.take i))) :: (Lf, fr fl) :: R) (h.re) rfl ?_ ?_
  · rintro i v W L' s hi ⟨n, T, t, u, hni, rfl, rfl⟩ rfl h
    have htl : (hs.take i).length = i := by rw [List.length_take]; omega
    have ht : hs.take (i + 1) = hs.take i ++ [n] := by rw [List.take_add_one, hni]; rfl
    have hsn := swapPts_snoc (hs.take i) n
    rw [htl, ← ht] at hsn
    have hnew : n ∉ (swapPts (hs.take i)).map (·.1) := by
      rw [swapPts_keys]
      intro hm
      obtain ⟨j, hj, e⟩ := List.getElem_of_mem hm
      rw [List.length_take] at hj
      rw [List.getElem_take] at e
      obtain ⟨h1, h2⟩ := List.getElem?_eq_some_iff.mp hni
      have := (List.getElem_inj hnd).mp (e.trans h2.symm)
      omega
    have h : St σ G ((T, tup [.int i t, .int n u]) :: (Cc, fr []) :: (acc, dci prog w (swapPts (hs.take i))) :: ([(e, enm it ((i + 1 : Nat) : Int)), (it, lit hl (i + 1)), (hl, ils hs)] ++ ((Lf, fr fl) :: R))) s := h.re
    refine T_assignTuple hA h (fun s h => T_order (T_assignN ?_))
    refine t_store h (fun s h => T_order (T_assignN ?_))
    refine t_store h (fun s h => T_order0 (T_tests0 ?_))
    refine ite_yes rfl (T_emitDict ?_)
    refine t_name h ?_
    refine t_name h ?_
    refine K_dictNew (D := acc) h (by repeat (first | exact Put.here | apply Put.there | apply put_skip)) hnew (by rw [swapPts_len]; omega) (fun s h => ?_)
    rw [← hsn] at h
    have h : St σ G ((T, tup [.int i t, .int n u]) :: (Cc, fr []) :: (acc, dci prog w (swapPts (hs.take (i + 1)))) :: ([(e, enm it ((i + 1 : Nat) : Int)), (it, lit hl (i + 1)), (hl, ils hs)] ++ ((Lf, fr fl) :: R))) s := h.frame [_] []
    have h := h.sub (List.sublist_cons_self _ _)
    exact ⟨_, rfl, h.re⟩
  · rintro L' s rfl h
    rw [List.take_length] at h
    have h : St σ G ((Cc, fr []) :: ((acc, dci prog w (swapPts hs)) :: (Lf, fr fl) :: (hl, ils hs) :: R)) s := h.re
    exact ⟨_, _, h, fun s h => k acc s h⟩

def FG : Nat → GenState → Prop := fun _ x => x = .finished

theorem law_walk (B : Base σ mg) (X : K.In σ.heap) (NN : NL K) (GG : GL mg) (hAl : Alone σ) (hA : A.handled = none) (hd : A.depth ≤ 830) (hu : A.units + 64 < cLine) {q : Str} {fa : Option Addr} {cd : Value} {fm : Option Addr} {Lf lc sc a : Addr} {ns : List Int} {Q : Flow → Shared → Prop} (O : OldL σ a ns) (P : Plain (heightsOf ns))
    (h : St σ (GS FG []) [(Lf, fr []), (sc, cel (some (.ref a))), (lc, cel none)] s)
    (k : ∀ s', St σ (GS FG []) [] s' → Q (.ret (.bool true)) s') :
    Wc prog w A (execs lawB (envL lc sc q fa cd fm Lf)) Q s := by
  have h0 := draws_at ns (k := 0) (by decide)
  have h10 := draws_at ns (k := 10) (by decide)
  have hdl : (draws ns).length = 11 := by simp [draws]
  obtain ⟨b1, b2, b3⟩ := lawN_bounds (drawAt ns 0)
  have hul : (upTo (lawN (drawAt ns 0))).length = lawN (drawAt ns 0) := by simp [upTo]
  refine c_cons (c_of (law_draw B X NN.rest GG.gf GG.rest hA O h (fun dl s h => ?_)))
  have h : St σ (GS FG []) ((Lf, fr [("draw", .ref dl)]) :: (lc, cel none) :: (dl, ils (draws ns)) :: [(sc, cel (some (.ref a)))]) s := h.re
  refine c_cons (c_of (law_left B GG.gf hA (by omega) h0 h (fun ll s h => ?_)))
  have h : St σ (GS FG []) ((Lf, fr [("draw", .ref dl)]) :: (lc, cel (some (.ref ll))) :: (dl, ils (draws ns)) :: (ll, ils (upTo (lawN (drawAt ns 0)))) :: [(sc, cel (some (.ref a)))]) s := h.re
  refine c_cons (c_of (law_heights B GG.gf hA (by omega) (by omega) h (fun hl s h => ?_)))
  have h : St σ (GS FG []) ((Lf, fr [("heights", .ref hl), ("draw", .ref dl)]) :: (hl, ils (heightsOf ns)) :: [(dl, ils (draws ns)), (sc, cel (some (.ref a)))]) s := h.re
  generalize heightsOf ns = hs at P h
  have hz := P.z
  refine c_cons (c_of (law_ins B X NN GG hA hd (by omega) h (fun ta ra pa as bs rows pls s la lb hst h => ?_)))
  obtain ⟨nm, ql, kV, doc, pm, an, cdv, ct, Fs⟩ := NN.fSha.fn X
  have P1 : Sh (enumPts hs) rows pls := by have := P.one; rwa [← hst] at this
  have P2 : Sh (swapPts hs) pls rows := by have := P.two; rwa [← hst] at this
  -- if _law_shadows(dict(enumerate(heights)), draw[10]) != (rows, places)
  refine c_cons (c_if (c_isCompare (c_call' (T_global B h GG.shadows ?_))))
  refine c_withF Fs (T_args (T_call (T_builtin B h GG.gf.dict (v := .type "dict") (by decide +kernel) ?_)))
  refine T_withT (T_args (T_call (T_builtin B h GG.gf.enumerate bt_enumerate ?_)))
  refine T_withT (T_args ?_)
  refine t_name h (T_args0 ?_)
  refine I_enumerate (l := hl) h (fun e it s h => T_args0 ?_)
  have h : St σ (GS FG []) ((e, enm it 0) :: (it, lit hl 0) :: (hl, ils hs) :: ((Lf, fr [("places", .ref pa), ("rows", .ref ra), ("heights", .ref hl), ("draw", .ref dl)]) :: (ta, tup [.ref ra, .ref pa]) :: (ra, lst (as.map .ref)) :: (pa, lst (bs.map .ref)) :: (seg as rows ++ (seg bs pls ++ [(dl, ils (draws ns)), (sc, cel (some (.ref a)))])))) s := h.re
  refine D_callEnum hA (by omega) h (fun d s h => T_args (T_sub ?_))
  refine T_name h (.tail _ (.tail _ (.head _))) (.tail _ (.tail _ (.tail _ (.head _)))) (T_int h (fun t1 s h => ?_))
  refine i_item (l := dl) h (by decide) h10 (fun t2 => T_args0 ?_) (hl := (by repeat (first | exact List.Mem.head _ | apply List.Mem.tail | apply List.mem_append_right _)))
  refine call_shadows (F := FG) (ex := []) B X NN.nf NN.nv NN.ng GG.gf NN.keep NN.fSha hAl hA (by omega) P1 (by rw [enumPts_len]; exact hz) (fun _ _ => rfl) h (fun tb rb pb cs ds s lc' ld' h => c_of (T_tuple (T_args ?_)))
  have h : St σ (GS FG []) ((Lf, fr [("places", .ref pa), ("rows", .ref ra), ("heights", .ref hl), ("draw", .ref dl)]) :: (tb, tup [.ref rb, .ref pb]) :: (rb, lst (cs.map .ref)) :: (pb, lst (ds.map .ref)) :: (ra, lst (as.map .ref)) :: (pa, lst (bs.map .ref)) :: (hl, ils hs) :: (dl, ils (draws ns)) :: (seg cs rows ++ (seg ds pls ++ (seg as rows ++ (seg bs pls ++ [(ta, tup [.ref ra, .ref pa]), (sc, cel (some (.ref a)))]))))) s := h.re
  refine t_name h (T_args ?_)
  refine t_name h (T_args0 (T_newTuple h (fun tc s h => ?_)))
  obtain ⟨x1, r1⟩ := reads_tt (t := tb) (ra := rb) (pa := pb) (as := cs) (bs := ds) (rows := rows) (pls := pls) h (by repeat (first | exact List.Mem.head _ | apply List.Mem.tail | apply List.mem_append_right _)) (by repeat (first | exact List.Mem.head _ | apply List.Mem.tail | apply List.mem_append_right _)) (by repeat (first | exact List.Mem.head _ | apply List.Mem.tail | apply List.mem_append_right _)) lc' ld' (fun c hc => (by repeat (first | exact List.mem_append_left _ hc | apply List.Mem.tail))) (fun c hc => (by repeat (first | exact List.mem_append_right _ (List.mem_append_left _ hc) | apply List.Mem.tail)))
  obtain ⟨x2, r2⟩ := reads_tt (t := tc) (ra := ra) (pa := pa) (as := as) (bs := bs) (rows := rows) (pls := pls) h (by repeat (first | exact List.Mem.head _ | apply List.Mem.tail | apply List.mem_append_right _)) (by repeat (first | exact List.Mem.head _ | apply List.Mem.tail | apply List.mem_append_right _)) (by repeat (first | exact List.Mem.head _ | apply List.Mem.tail | apply List.mem_append_right _)) la lb (fun c hc => (by repeat (first | exact List.mem_append_right _ (List.mem_append_right _ (List.mem_append_left _ hc)) | apply List.Mem.tail))) (fun c hc => (by repeat (first | exact List.mem_append_right _ (List.mem_append_right _ (List.mem_append_right _ (List.mem_append_left _ hc))) | apply List.Mem.tail)))
  refine T_neSame r1 r2 hu (T_truthyBool ?_)
  refine ite_no rfl (c_execsNil ?_)
  -- return _law_shadows({..}, draw[10]) == (places, rows)
  refine c_cons (c_ret (c_compare (c_call' (T_global B h GG.shadows ?_))))
  have h : St σ (GS FG []) ((Lf, fr [("places", .ref pa), ("rows", .ref ra), ("heights", .ref hl), ("draw", .ref dl)]) :: (hl, ils hs) :: (dl, ils (draws ns)) :: (ra, lst (as.map .ref)) :: (pa, lst (bs.map .ref)) :: (seg as rows ++ (seg bs pls ++ ([(ta, tup [.ref ra, .ref pa]), (sc, cel (some (.ref a))), (tc, tup [.ref ra, .ref pa]), (tb, tup [.ref rb, .ref pb]), (rb, lst (cs.map .ref)), (pb, lst (ds.map .ref))] ++ (seg cs rows ++ seg ds pls))))) s := h.re
  refine c_withF Fs (T_args ?_)
  refine law_comp B GG hA (by omega) P.nd (by simp) h (fun d s h => T_args (T_sub ?_))
  refine t_name h (T_int h (fun t1 s h => ?_))
  refine i_item (l := dl) h (by decide) h10 (fun t2 => T_args0 ?_) (hl := (by repeat (first | exact List.Mem.head _ | apply List.Mem.tail | apply List.mem_append_right _)))
  refine call_shadows (F := FG) (ex := []) B X NN.nf NN.nv NN.ng GG.gf NN.keep NN.fSha hAl hA (by omega) P2 (by rw [swapPts_len]; exact hz) (fun _ _ => rfl) h (fun tb2 rb2 pb2 cs2 ds2 s lc2 ld2 h => c_of (T_tuple (T_args ?_)))
  have h : St σ (GS FG []) ((Lf, fr [("places", .ref pa), ("rows", .ref ra), ("heights", .ref hl), ("draw", .ref dl)]) :: (tb2, tup [.ref rb2, .ref pb2]) :: (rb2, lst (cs2.map .ref)) :: (pb2, lst (ds2.map .ref)) :: (ra, lst (as.map .ref)) :: (pa, lst (bs.map .ref)) :: (hl, ils hs) :: (dl, ils (draws ns)) :: (seg cs2 pls ++ (seg ds2 rows ++ (seg as rows ++ (seg bs pls ++ ([(ta, tup [.ref ra, .ref pa]), (sc, cel (some (.ref a))), (tc, tup [.ref ra, .ref pa]), (tb, tup [.ref rb, .ref pb]), (rb, lst (cs.map .ref)), (pb, lst (ds.map .ref))] ++ (seg cs rows ++ seg ds pls))))))) s := h.re
  refine t_name h (T_args ?_)
  refine t_name h (T_args0 (T_newTuple h (fun te s h => ?_)))
  obtain ⟨x3, r3⟩ := reads_tt (t := tb2) (ra := rb2) (pa := pb2) (as := cs2) (bs := ds2) (rows := pls) (pls := rows) h (by repeat (first | exact List.Mem.head _ | apply List.Mem.tail | apply List.mem_append_right _)) (by repeat (first | exact List.Mem.head _ | apply List.Mem.tail | apply List.mem_append_right _)) (by repeat (first | exact List.Mem.head _ | apply List.Mem.tail | apply List.mem_append_right _)) lc2 ld2 (fun c hc => (by repeat (first | exact List.mem_append_left _ hc | apply List.Mem.tail))) (fun c hc => (by repeat (first | exact List.mem_append_right _ (List.mem_append_left _ hc) | apply List.Mem.tail)))
  obtain ⟨x4, r4⟩ := reads_tt (t := te) (ra := pa) (pa := ra) (as := bs) (bs := as) (rows := pls) (pls := rows) h (by repeat (first | exact List.Mem.head _ | apply List.Mem.tail | apply List.mem_append_right _)) (by repeat (first | exact List.Mem.head _ | apply List.Mem.tail | apply List.mem_append_right _)) (by repeat (first | exact List.Mem.head _ | apply List.Mem.tail | apply List.mem_append_right _)) lb la (fun c hc => (by repeat (first | exact List.mem_append_right _ (List.mem_append_right _ (List.mem_append_right _ (List.mem_append_left _ hc))) | apply List.Mem.tail))) (fun c hc => (by repeat (first | exact List.mem_append_right _ (List.mem_append_right _ (List.mem_append_left _ hc)) | apply List.Mem.tail)))
  refine T_eqSame r3 r4 hu ?_
  exact k s (h.sub (List.nil_sublist _))
end
end Mine

namespace Mine

/-- the counts above zero, in the nodes' order -/
def indL (names : List Int) (c : Int → Nat) : List (Int × Int) := (names.filter fun n => decide (0 < c n)).map fun n => (n, (c n : Int))
def dec (c : Int → Nat) (n : Int) : Int → Nat := fun m => if m = n then c m - 1 else c m

theorem indL_cons (a : Int) (r : List Int) (c : Int → Nat) : indL (a :: r) c = (if 0 < c a then [(a, (c a : Int))] else []) ++ indL r c := by
  unfold indL
  rw [List.filter_cons]
  by_cases h : 0 < c a
  · rw [if_pos (by simpa using h), if_pos h]; rfl
  · rw [if_neg (by simpa using h), if_neg h]; rfl
theorem indL_congr {names : List Int} {c c' : Int → Nat} (h : ∀ n ∈ names, c n = c' n) : indL names c = indL names c' := by
  induction names with
  | nil => rfl
  | cons a r ih =>
    rw [indL_cons, indL_cons, h a (.head _), ih (fun n hn => h n (.tail _ hn))]
theorem kVal_indL {names : List Int} {c : Int → Nat} {n : Int} (hn : n ∈ names) (hc : 0 < c n) : kVal (indL names c) n = some (c n : Int) := by
  induction names with
  | nil => cases hn
  | cons a r ih =>
    rw [indL_cons]
    by_cases e : a = n
    · subst e
      rw [if_pos hc]; simp [kVal]
    · have hr : n ∈ r := by rcases List.mem_cons.mp hn with h | h; exact absurd h.symm e; exact h
      have := ih hr
      by_cases h : 0 < c a
      · rw [if_pos h]; simpa [kVal, e] using this
      · rw [if_neg h]; exact this
theorem kPut_indL {names : List Int} {c : Int → Nat} {n : Int} (hc : 2 ≤ c n) : kPut (indL names c) n ((c n : Int) - 1) = indL names (dec c n) := by
  induction names with
  | nil => rfl
  | cons a r ih =>
    rw [indL_cons, indL_cons]
    unfold kPut at ih ⊢
    rw [List.map_append, ih]
    congr 1
    by_cases e : a = n
    · subst e
      have h1 : dec c a a = c a - 1 := by simp [dec]
      rw [if_pos (by omega), h1, if_pos (by omega)]
      have h2 : ((c a - 1 : Nat) : Int) = (c a : Int) - 1 := by omega
      simp [h2]
    · have h1 : dec c n a = c a := by simp [dec, e]
      rw [h1]
      by_cases h : 0 < c a
      · rw [if_pos h]; simp [e]
      · rw [if_neg h]; rfl
theorem kDel_indL {names : List Int} {c : Int → Nat} {n : Int} (hc : c n = 1) : kDel (indL names c) n = indL names (dec c n) := by
  induction names with
  | nil => rfl
  | cons a r ih =>
    rw [indL_cons, indL_cons]
    unfold kDel at ih ⊢
    rw [List.filter_append, ih]
    congr 1
    by_cases e : a = n
    · subst e
      have h1 : dec c a a = 0 := by simp [dec, hc]
      rw [if_pos (by omega), h1, if_neg (by omega)]
      simp
    · have h1 : dec c n a = c a := by simp [dec, e]
      rw [h1]
      by_cases h : 0 < c a
      · rw [if_pos h]; simp [e]
      · rw [if_neg h]; rfl
theorem kChild_indL {names : List Int} {c : Int → Nat} {z : List Int} {n : Int} (hn : n ∈ names) (hc : 0 < c n) : (kVal (indL names c) n).isSome = true ∧ kChild (indL names c, z) n = (indL names (dec c n), z ++ if c n = 1 then [n] else []) := by
  have hv := kVal_indL hn hc
  refine ⟨by rw [hv]; rfl, ?_⟩
  unfold kChild
  dsimp only
  rw [hv]
  dsimp only
  by_cases h : c n = 1
  · rw [if_pos (by omega), if_pos h, kDel_indL h]
  · rw [if_neg (by omega), if_neg h, kPut_indL (by omega), List.append_nil]

theorem filter_insert {names : List Int} {p q : Int → Bool} {x : Int} (hn : names.Nodup) (hx : x ∈ names) (hp : p x = true) (hq : q x = false) (h : ∀ n, n ≠ x → p n = q n) : (names.filter p).Perm (x :: names.filter q) := by
  induction names with
  | nil => cases hx
  | cons a r ih =>
    rw [List.nodup_cons] at hn
    by_cases e : a = x
    · subst e
      rw [List.filter_cons, if_pos hp, List.filter_cons, if_neg (by simp [hq])]
      rw [show r.filter p = r.filter q from List.filter_congr fun n hm => h n (fun e => hn.1 (e ▸ hm))]
    · have hr : x ∈ r := by rcases List.mem_cons.mp hx with h | h; exact absurd h.symm e; exact h
      have := ih hn.2 hr
      rw [List.filter_cons, List.filter_cons, h a e]
      by_cases hqa : q a = true
      · rw [if_pos hqa, if_pos hqa]
        exact (this.cons a).trans (List.Perm.swap x a _)
      · rw [if_neg hqa, if_neg hqa]; exact this

/-- a run over the children -/
theorem kRunL {names : List Int} (hn : names.Nodup) : ∀ (cs : List Int) (c : Int → Nat) (z : List Int), (∀ n ∈ cs, n ∈ names) → (∀ n, cs.count n ≤ c n) →
    kFine (indL names c, z) cs ∧ (cs.foldl kChild (indL names c, z)).1 = indL names (fun n => c n - cs.count n) ∧
      ∃ zs, (cs.foldl kChild (indL names c, z)).2 = z ++ zs ∧ zs.Perm (names.filter fun n => decide (0 < c n) && decide (c n = cs.count n))
  | [], c, z, _, _ => by
    refine ⟨trivial, by simp, [], by simp, ?_⟩
    rw [List.filter_eq_nil_iff.mpr]
    intro a _
    intro hh
    obtain ⟨h1, h2⟩ := Bool.and_eq_true_iff.mp hh
    have h1 := of_decide_eq_true h1
    have h2 := of_decide_eq_true h2
    have h3 : List.count a ([] : List Int) = 0 := List.count_nil
    omega
  | x :: cs, c, z, hm, hc => by
    have hx := hm x (.head _)
    have hcx := hc x
    rw [List.count_cons_self] at hcx
    obtain ⟨h1, h2⟩ := kChild_indL (z := z) hx (show 0 < c x by omega)
    have hc' : ∀ n, cs.count n ≤ dec c x n := by
      intro n
      have := hc n
      unfold dec
      by_cases e : n = x
      · subst e; rw [if_pos rfl]; rw [List.count_cons_self] at this; omega
      · rw [if_neg e]; rw [List.count_cons_of_ne (fun q => e q.symm)] at this; exact this
    obtain ⟨f1, f2, zs, f3, f4⟩ := kRunL hn cs (dec c x) (z ++ if c x = 1 then [x] else []) (fun n hn => hm n (.tail _ hn)) hc'
    refine ⟨⟨h1, by rw [h2]; exact f1⟩, ?_, (if c x = 1 then [x] else []) ++ zs, ?_, ?_⟩
    · rw [List.foldl_cons, h2, f2]
      refine indL_congr (fun n _ => ?_)
      unfold dec
      by_cases e : n = x
      · subst e; rw [if_pos rfl, List.count_cons_self]; omega
      · rw [if_neg e, List.count_cons_of_ne (fun q => e q.symm)]
    · rw [List.foldl_cons, h2, f3, List.append_assoc]
    · have same : ∀ n, n ≠ x → (decide (0 < c n) && decide (c n = (x :: cs).count n)) = (decide (0 < dec c x n) && decide (dec c x n = cs.count n)) := by
        intro n e
        have h3 : dec c x n = c n := by simp [dec, e]
        rw [h3, List.count_cons_of_ne (fun q => e q.symm)]
      by_cases h : c x = 1
      · rw [if_pos h]
        refine (f4.cons x).trans (List.Perm.symm (filter_insert hn hx ?_ ?_ same))
        · have : cs.count x = 0 := by omega
          rw [List.count_cons_self, this, h]; rfl
        · have h3 : dec c x x = 0 := by simp [dec, h]
          rw [h3]; rfl
      · rw [if_neg h]
        refine f4.trans (List.Perm.of_eq (List.filter_congr fun n _ => ?_))
        by_cases e : n = x
        · subst e
          have h3 : dec c n n = c n - 1 := by simp [dec]
          rw [h3, List.count_cons_self]
          have e1 : decide (0 < c n) = true := decide_eq_true (by omega)
          have e2 : decide (0 < c n - 1) = true := decide_eq_true (by omega)
          rw [e1, e2]
          congr 1
          exact decide_eq_decide.mpr (by omega)
        · exact (same n e).symm
end Mine

namespace Mine

theorem filter_one {ms : List Int} {n : Int} (hn : ms.Nodup) (hm : n ∈ ms) (p : Int → Bool) : (ms.filter p).filter (fun b => b == n) = if p n = true then [n] else [] := by
  induction ms with
  | nil => cases hm
  | cons a r ih =>
    rw [List.nodup_cons] at hn
    by_cases e : a = n
    · subst e
      have hr : (r.filter p).filter (fun b => b == a) = [] := by
        rw [List.filter_eq_nil_iff]
        intro b hb he
        exact hn.1 ((eq_of_beq he) ▸ (List.mem_filter.mp hb).1)
      rw [List.filter_cons]
      by_cases h : p a = true
      · rw [if_pos h, if_pos h, List.filter_cons, if_pos (by simp), hr]
      · rw [if_neg h, if_neg h, hr]
    · have hr : n ∈ r := by rcases List.mem_cons.mp hm with h | h; exact absurd h.symm e; exact h
      rw [List.filter_cons]
      by_cases h : p a = true
      · rw [if_pos h, List.filter_cons, if_neg (by simpa using e)]; exact ih hn.2 hr
      · rw [if_neg h]; exact ih hn.2 hr
theorem eOf_fst {pts : List (Int × Int)} {ms : List Int} {a n : Int} : ((eOf pts ms a).filter fun e => e.1 == n).map (·.2) = if a = n then ms.filter (eHit pts a) else [] := by
  unfold eOf
  rw [List.filter_map, List.map_map]
  by_cases e : a = n
  · subst e
    rw [if_pos rfl]
    have : ((fun e : Int × Int => e.1 == a) ∘ fun b => (a, b)) = fun _ => true := by funext b; simp
    rw [this, List.filter_eq_self.mpr (fun _ _ => rfl)]
    have e2 : ((fun x : Int × Int => x.2) ∘ fun b => (a, b)) = id := rfl
    rw [e2, List.map_id]
  · rw [if_neg e]
    have : ((fun e : Int × Int => e.1 == n) ∘ fun b => (a, b)) = fun _ => false := by funext b; simp [e]
    rw [this]
    have e2 : ∀ l : List Int, l.filter (fun _ => false) = [] := fun l => List.filter_eq_nil_iff.mpr (fun _ _ h => by cases h)
    rw [e2]; rfl
theorem eOf_snd {pts : List (Int × Int)} {ms : List Int} {a n : Int} (hn : ms.Nodup) (hm : n ∈ ms) : ((eOf pts ms a).filter fun e => e.2 == n).map (·.1) = if eHit pts a n = true then [a] else [] := by
  unfold eOf
  rw [List.filter_map, List.map_map]
  have : ((fun e : Int × Int => e.2 == n) ∘ fun b => (a, b)) = fun b => b == n := rfl
  rw [this, filter_one hn hm]
  split <;> rfl
theorem succ_flat {pts : List (Int × Int)} {ms : List Int} {n : Int} : ∀ {l : List Int}, l.Nodup → (((l.flatMap (eOf pts ms)).filter fun e => e.1 == n).map (·.2)) = if n ∈ l then ms.filter (eHit pts n) else []
  | [], _ => rfl
  | a :: l, h => by
    rw [List.nodup_cons] at h
    have ih := succ_flat (pts := pts) (ms := ms) (n := n) h.2
    rw [List.flatMap_cons, List.filter_append, List.map_append, eOf_fst, ih]
    by_cases e : a = n
    · subst e
      rw [if_pos rfl, if_neg h.1, if_pos (.head _), List.append_nil]
    · rw [if_neg e, List.nil_append]
      by_cases e2 : n ∈ l
      · rw [if_pos e2, if_pos (.tail _ e2)]
      · rw [if_neg e2, if_neg (fun q => by rcases List.mem_cons.mp q with q | q; exact e q.symm; exact e2 q)]
theorem succK_edges {pts : List (Int × Int)} {names : List Int} {n : Int} (hn : names.Nodup) (hm : n ∈ names) : succK (edges pts names) n = names.filter (eHit pts n) := by
  unfold succK edges
  rw [succ_flat hn, if_pos hm]
theorem pred_flat {pts : List (Int × Int)} {ms : List Int} {n : Int} (hn : ms.Nodup) (hm : n ∈ ms) : ∀ l : List Int, (((l.flatMap (eOf pts ms)).filter fun e => e.2 == n).map (·.1)) = l.filter fun a => eHit pts a n
  | [] => rfl
  | a :: l => by
    rw [List.flatMap_cons, List.filter_append, List.map_append, eOf_snd hn hm, pred_flat hn hm l, List.filter_cons]
    split <;> rfl
theorem predK_edges {pts : List (Int × Int)} {names : List Int} {n : Int} (hn : names.Nodup) (hm : n ∈ names) : predK (edges pts names) n = names.filter fun a => eHit pts a n := pred_flat hn hm names

theorem count_flat {f : Int → List Int} {p : Int → Bool} {n : Int} : ∀ {l : List Int}, (∀ a ∈ l, (f a).count n = if p a = true then 1 else 0) → (l.flatMap f).count n = l.countP p
  | [], _ => rfl
  | a :: l, h => by
    rw [List.flatMap_cons, List.count_append, h a (.head _), count_flat (fun b hb => h b (.tail _ hb)), List.countP_cons]
    omega
theorem countP_split {p q r : Int → Bool} : ∀ {l : List Int}, (∀ a ∈ l, p a = (q a || r a)) → (∀ a ∈ l, (q a && r a) = false) → l.countP p = l.countP q + l.countP r
  | [], _, _ => rfl
  | a :: l, h1, h2 => by
    have ih := countP_split (fun b hb => h1 b (.tail _ hb)) (fun b hb => h2 b (.tail _ hb))
    have e1 := h1 a (.head _)
    have e2 := h2 a (.head _)
    rw [List.countP_cons, List.countP_cons, List.countP_cons, ih, e1]
    cases hq : q a <;> cases hr : r a <;> simp_all <;> omega
theorem count_filter_one {names : List Int} {p : Int → Bool} {n : Int} (hn : names.Nodup) (hm : n ∈ names) : (names.filter p).count n = if p n = true then 1 else 0 := by
  by_cases h : p n = true
  · rw [if_pos h]
    have h1 := List.nodup_iff_count.mp (hn.filter p) n
    have h2 := List.count_pos_iff.mpr (List.mem_filter.mpr ⟨hm, h⟩)
    omega
  · rw [if_neg h]
    exact List.count_eq_zero.mpr (fun q => h (List.mem_filter.mp q).2)

/-- levels -/
structure Lev (pts : List (Int × Int)) (names : List Int) (lev : Int → Nat) (M : Nat) : Prop where
  up : ∀ a ∈ names, ∀ b ∈ names, eHit pts a b = true → lev a < lev b
  low : ∀ b ∈ names, ∀ i, lev b = i + 1 → ∃ a ∈ names, lev a = i ∧ eHit pts a b = true
  lt : ∀ a ∈ names, lev a < M
  has : ∀ i, i < M → ∃ a ∈ names, lev a = i

def cntL (pts : List (Int × Int)) (names : List Int) (lev : Int → Nat) (i : Nat) (n : Int) : Nat := names.countP fun a => decide (i ≤ lev a) && eHit pts a n
def gsF (suc : Int → List Int) (st : List (Int × Int) × List Int) : Nat → List (Int × Int) × List Int
  | 0 => st
  | i + 1 => ((gsF suc st i).2.flatMap suc).foldl kChild ((gsF suc st i).1, [])

section
variable {pts : List (Int × Int)} {names : List Int} {lev : Int → Nat} {M : Nat}
theorem cnt_pos (H : Lev pts names lev M) {n : Int} (hm : n ∈ names) (i : Nat) : 0 < cntL pts names lev i n ↔ i < lev n := by
  unfold cntL
  rw [List.countP_pos_iff]
  constructor
  · rintro ⟨a, ha, he⟩
    obtain ⟨h1, h2⟩ := Bool.and_eq_true_iff.mp he
    have := H.up a ha n hm h2
    have := of_decide_eq_true h1
    omega
  · intro h
    obtain ⟨a, ha, h1, h2⟩ := H.low n hm (lev n - 1) (by omega)
    exact ⟨a, ha, by rw [h2, decide_eq_true (by omega)]; rfl⟩
theorem cnt_split (i : Nat) (n : Int) : cntL pts names lev i n = (names.countP fun a => decide (lev a = i) && eHit pts a n) + cntL pts names lev (i + 1) n := by
  refine countP_split (fun a _ => ?_) (fun a _ => ?_)
  · cases eHit pts a n
    · simp
    · simp only [Bool.and_true]
      rw [← Bool.decide_or]
      exact decide_eq_decide.mpr (by omega)
  · cases eHit pts a n
    · simp
    · simp only [Bool.and_true]
      rw [← Bool.decide_and]
      exact decide_eq_false (by omega)

theorem kahn (H : Lev pts names lev M) (hn : names.Nodup) (hz : names.length ≤ 400) : ∃ gs, KRun (succK (edges pts names)) names gs M ∧ gs 0 = (ind0 (degK (edges pts names) names), zero0 (degK (edges pts names) names)) ∧ ∀ i, i < M → (gs i).2.Perm (names.filter fun n => decide (lev n = i)) := by
  have hpos : ∀ n ∈ names, ∀ i, 0 < cntL pts names lev i n ↔ i < lev n := fun n hm i => cnt_pos H hm i
  have hdeg : degK (edges pts names) names = names.map fun n => (n, (cntL pts names lev 0 n : Int)) := by
    unfold degK
    refine List.map_congr_left (fun n hm => ?_)
    rw [predK_edges hn hm]
    unfold cntL
    rw [List.countP_eq_length_filter]
    simp
  have h0 : (ind0 (degK (edges pts names) names), zero0 (degK (edges pts names) names)) = (indL names (cntL pts names lev 0), names.filter fun n => decide (lev n = 0)) := by
    rw [hdeg]
    congr 1
    · unfold ind0 indL
      rw [List.filter_map]
      congr 1
      refine List.filter_congr (fun n _ => ?_)
      simp
    · unfold zero0
      rw [List.filter_map, List.map_map]
      have : ((fun x : Int × Int => x.1) ∘ fun n => (n, (cntL pts names lev 0 n : Int))) = id := rfl
      rw [this, List.map_id]
      refine List.filter_congr (fun n hm => ?_)
      have := hpos n hm 0
      show ((cntL pts names lev 0 n : Int) == 0) = _
      by_cases e : lev n = 0
      · rw [decide_eq_true e]
        have : cntL pts names lev 0 n = 0 := by omega
        rw [this]; rfl
      · rw [decide_eq_false e, beq_eq_false_iff_ne]
        omega
  have step : ∀ (gen : List Int) (i : Nat), gen.Perm (names.filter fun n => decide (lev n = i)) →
      (∀ n ∈ gen.flatMap (succK (edges pts names)), n ∈ names) ∧ (∀ n ∈ names, (gen.flatMap (succK (edges pts names))).count n = names.countP fun a => decide (lev a = i) && eHit pts a n) := by
    intro gen i hp
    have hg : ∀ a ∈ gen, a ∈ names := fun a ha => (List.mem_filter.mp (hp.mem_iff.mp ha)).1
    constructor
    · intro n hm
      obtain ⟨a, ha, hb⟩ := List.mem_flatMap.mp hm
      rw [succK_edges hn (hg a ha)] at hb
      exact (List.mem_filter.mp hb).1
    · intro n hm
      rw [count_flat (p := fun a => eHit pts a n) (fun a ha => by rw [succK_edges hn (hg a ha)]; exact count_filter_one hn hm), hp.countP_eq, List.countP_filter]
      congr 1
      funext a
      exact Bool.and_comm _ _
  have inv : ∀ i, (gsF (succK (edges pts names)) (indL names (cntL pts names lev 0), names.filter fun n => decide (lev n = 0)) i).1 = indL names (cntL pts names lev i) ∧
      (gsF (succK (edges pts names)) (indL names (cntL pts names lev 0), names.filter fun n => decide (lev n = 0)) i).2.Perm (names.filter fun n => decide (lev n = i)) := by
    intro i
    induction i with
    | zero => exact ⟨rfl, List.Perm.refl _⟩
    | succ i ih =>
      obtain ⟨e1, e2⟩ := ih
      obtain ⟨s1, s2⟩ := step _ i e2
      have hle : ∀ n, ((gsF (succK (edges pts names)) (indL names (cntL pts names lev 0), names.filter fun n => decide (lev n = 0)) i).2.flatMap (succK (edges pts names))).count n ≤ cntL pts names lev i n := by
        intro n
        by_cases hm : n ∈ names
        · rw [s2 n hm, cnt_split i n]; omega
        · rw [List.count_eq_zero.mpr (fun q => hm (s1 n q))]; omega
      obtain ⟨_, r2, zs, r3, r4⟩ := kRunL hn _ (cntL pts names lev i) [] s1 hle
      rw [gsF, e1]
      refine ⟨r2.trans (indL_congr fun n hm => ?_), ?_⟩
      · rw [s2 n hm, cnt_split i n]; omega
      · rw [r3, List.nil_append]
        refine r4.trans (List.Perm.of_eq (List.filter_congr fun n hm => ?_))
        have a1 := hpos n hm i
        have a2 := hpos n hm (i + 1)
        have a3 := cnt_split (pts := pts) (names := names) (lev := lev) i n
        rw [s2 n hm, ← Bool.decide_and]
        exact decide_eq_decide.mpr (by omega)
  refine ⟨gsF (succK (edges pts names)) (indL names (cntL pts names lev 0), names.filter fun n => decide (lev n = 0)), ⟨fun i _ => rfl, fun i _ => ?_, fun i hi => ?_, fun i _ n hm => ?_, ?_, ?_⟩, h0.symm, fun i _ => (inv i).2⟩
  · obtain ⟨e1, e2⟩ := inv i
    obtain ⟨s1, s2⟩ := step _ i e2
    rw [e1]
    refine (kRunL hn _ (cntL pts names lev i) [] s1 (fun n => ?_)).1
    by_cases hm : n ∈ names
    · rw [s2 n hm, cnt_split i n]; omega
    · rw [List.count_eq_zero.mpr (fun q => hm (s1 n q))]; omega
  · intro e
    obtain ⟨a, ha, hl⟩ := H.has i hi
    have hp := (inv i).2
    rw [e] at hp
    have : a ∈ names.filter fun n => decide (lev n = i) := List.mem_filter.mpr ⟨ha, decide_eq_true hl⟩
    have := hp.mem_iff.mpr this
    cases this
  · exact (List.mem_filter.mp ((inv i).2.mem_iff.mp hm)).1
  · obtain ⟨e1, e2⟩ := inv M
    refine Prod.ext ?_ ?_
    · rw [e1]
      unfold indL
      rw [List.filter_eq_nil_iff.mpr (fun n hm q => ?_)]
      · rfl
      · have := (hpos n hm M).mp (of_decide_eq_true q)
        have := H.lt n hm
        omega
    · refine List.Perm.eq_nil (e2.trans (List.Perm.of_eq (List.filter_eq_nil_iff.mpr fun n hm q => ?_)))
      have := H.lt n hm
      have := of_decide_eq_true q
      omega
  · show (indL names (cntL pts names lev 0)).length + (names.filter fun n => decide (lev n = 0)).length ≤ 900
    have h1 := List.length_filter_le (fun n => decide (0 < cntL pts names lev 0 n)) names
    have h2 := List.length_filter_le (fun n => decide (lev n = 0)) names
    unfold indL
    rw [List.length_map]
    omega
end
end Mine

namespace Mine

theorem nodup_mid {l m : List Int} (h : l.Nodup) (h2 : m.Nodup) (he : ∀ x, x ∈ l ↔ x ∈ m) : l.Perm m :=
  (List.perm_ext_iff_of_nodup h h2).mpr he

theorem lineNext_keys (pts : List (Int × Int)) : ∀ l : List Int, (lineNext pts l).map (·.1) = l.tail := by
  intro l
  unfold lineNext
  rw [List.map_zipWith]
  cases l with
  | nil => rfl
  | cons a r =>
    show List.zipWith (fun _ b => b) (a :: r) r = r
    have : ∀ (r : List Int) (a : Int), List.zipWith (fun _ b => b) (a :: r) r = r := by
      intro r
      induction r with
      | nil => intro a; rfl
      | cons b t ih => intro a; rw [List.zipWith_cons_cons, ih b]
    exact this r a
theorem nextP_keys (pts : List (Int × Int)) (lines : List (List Int)) : (nextP pts lines).map (·.1) = lines.flatMap List.tail := by
  unfold nextP
  rw [List.map_flatMap]
  congr 1
  funext l
  exact lineNext_keys pts l
theorem tails_sub : ∀ lines : List (List Int), (lines.flatMap List.tail).Sublist lines.flatten
  | [] => .slnil
  | l :: r => by
    rw [List.flatMap_cons, List.flatten_cons]
    exact (List.tail_sublist l).append (tails_sub r)
theorem tails_len : ∀ lines : List (List Int), (∀ l ∈ lines, l ≠ []) → (lines.flatMap List.tail).length + lines.length = lines.flatten.length
  | [], _ => rfl
  | l :: r, h => by
    have ih := tails_len r (fun l hl => h l (.tail _ hl))
    have h1 := h l (.head _)
    have h2 : 0 < l.length := List.length_pos_iff.mpr h1
    rw [List.flatMap_cons, List.flatten_cons, List.length_append, List.length_append, List.length_cons, List.length_tail]
    omega

/-- a round's lines: generation by generation, each rising -/
theorem roundOk_of {pts : List (Int × Int)} {lines : List (List Int)} (hp0 : pts ≠ []) (hz : pts.length ≤ 400) (nd : (pts.map (·.1)).Nodup) (perm : lines.flatten.Perm (pts.map (·.1))) (asc : ∀ l ∈ lines, l.Pairwise (· < ·)) (ne : ∀ l ∈ lines, l ≠ [])
    (up : ∀ (i j : Nat) l l' a b, lines[i]? = some l → lines[j]? = some l' → a ∈ l → b ∈ l' → eHit pts a b = true → i < j)
    (low : ∀ (i : Nat) l l' b, lines[i]? = some l → lines[i + 1]? = some l' → b ∈ l' → ∃ a ∈ l, eHit pts a b = true) : RoundOk pts lines := by
  have fnd : lines.flatten.Nodup := perm.nodup_iff.mpr nd
  have hflen : lines.flatten.length = pts.length := by rw [perm.length_eq, List.length_map]
  have htl := tails_len lines ne
  have hkl : (nextP pts lines).length = (lines.flatMap List.tail).length := by rw [← nextP_keys pts, List.length_map]
  have hln : 0 < lines.length := by
    refine Nat.pos_of_ne_zero (fun e => ?_)
    rw [List.eq_nil_of_length_eq_zero e] at hflen
    exact hp0 (List.eq_nil_of_length_eq_zero hflen.symm)
  -- the level of a node
  have hex : ∀ n ∈ pts.map (·.1), ∃ (i : Nat) (l : List Int), lines[i]? = some l ∧ n ∈ l := by
    intro n hn
    obtain ⟨l, hl, hnl⟩ := List.mem_flatten.mp (perm.mem_iff.mpr hn)
    obtain ⟨i, hi⟩ := List.mem_iff_getElem?.mp hl
    exact ⟨i, l, hi, hnl⟩
  have huniq : ∀ (i j : Nat) (l l' : List Int) (n : Int), lines[i]? = some l → lines[j]? = some l' → n ∈ l → n ∈ l' → i = j := by
    intro i j l l' n hi hj hn hn'
    have hpw := (List.pairwise_flatten.mp fnd).2
    have hpi := List.pairwise_iff_getElem.mp hpw
    obtain ⟨h1, rfl⟩ := List.getElem?_eq_some_iff.mp hi
    obtain ⟨h2, rfl⟩ := List.getElem?_eq_some_iff.mp hj
    rcases Nat.lt_trichotomy i j with h | h | h
    · exact absurd rfl (hpi i j h1 h2 h n hn n hn')
    · exact h
    · exact absurd rfl (hpi j i h2 h1 h n hn' n hn)
  have hlev : ∃ lev : Int → Nat, ∀ (i : Nat) (l : List Int) (n : Int), lines[i]? = some l → n ∈ l → lev n = i := by
    refine ⟨fun n => lines.findIdx fun l => decide (n ∈ l), fun i l n hi hn => ?_⟩
    have hlt : lines.findIdx (fun l => decide (n ∈ l)) < lines.length := List.findIdx_lt_length_of_exists ⟨l, List.mem_of_getElem? hi, decide_eq_true hn⟩
    have hm := List.findIdx_getElem (xs := lines) (p := fun l => decide (n ∈ l)) (w := hlt)
    exact huniq _ i _ l n (List.getElem?_eq_getElem hlt) hi (of_decide_eq_true hm) hn
  obtain ⟨lev, hlev⟩ := hlev
  refine ⟨fun names hpn => ?_, asc, hln, ne, fun l hl n hn => perm.mem_iff.mp (List.mem_flatten.mpr ⟨l, hl, hn⟩), nd, ?_, ?_, ?_, ?_⟩
  · have hnn : names.Nodup := hpn.nodup_iff.mpr nd
    have H : Lev pts names lev lines.length := by
      refine ⟨fun a ha b hb he => ?_, fun b hb i hi => ?_, fun a ha => ?_, fun i hi => ?_⟩
      · obtain ⟨i, l, h1, h2⟩ := hex a (hpn.mem_iff.mp ha)
        obtain ⟨j, l', h3, h4⟩ := hex b (hpn.mem_iff.mp hb)
        rw [hlev i l a h1 h2, hlev j l' b h3 h4]
        exact up i j l l' a b h1 h3 h2 h4 he
      · obtain ⟨j, l', h3, h4⟩ := hex b (hpn.mem_iff.mp hb)
        have e := hlev j l' b h3 h4
        obtain rfl : j = i + 1 := by omega
        have hlt := (List.getElem?_eq_some_iff.mp h3).1
        obtain ⟨a, ha, he⟩ := low i lines[i] l' b (List.getElem?_eq_getElem (by omega)) h3 h4
        exact ⟨a, hpn.mem_iff.mpr (perm.mem_iff.mp (List.mem_flatten.mpr ⟨_, List.getElem_mem _, ha⟩)), hlev i _ a (List.getElem?_eq_getElem (by omega)) ha, he⟩
      · obtain ⟨i, l, h1, h2⟩ := hex a (hpn.mem_iff.mp ha)
        rw [hlev i l a h1 h2]
        exact (List.getElem?_eq_some_iff.mp h1).1
      · have h1 : lines[i]? = some lines[i] := List.getElem?_eq_getElem hi
        obtain ⟨a, ha⟩ := List.exists_mem_of_ne_nil _ (ne _ (List.mem_of_getElem? h1))
        exact ⟨a, hpn.mem_iff.mpr (perm.mem_iff.mp (List.mem_flatten.mpr ⟨_, List.getElem_mem _, ha⟩)), hlev i _ a h1 ha⟩
    have hnl : names.length = pts.length := by rw [hpn.length_eq, List.length_map]
    obtain ⟨gs, KR, hg0, hgp⟩ := kahn H hnn (by omega)
    refine ⟨gs, KR, hg0, fun i l hi => ?_⟩
    have hlt := (List.getElem?_eq_some_iff.mp hi).1
    refine (hgp i hlt).trans (nodup_mid (hnn.filter _) ((asc l (List.mem_of_getElem? hi)).imp (fun h => Int.ne_of_lt h)) (fun n => ?_))
    rw [List.mem_filter, decide_eq_true_eq]
    constructor
    · rintro ⟨h1, h2⟩
      obtain ⟨j, l', h3, h4⟩ := hex n (hpn.mem_iff.mp h1)
      have := hlev j l' n h3 h4
      obtain rfl : j = i := by omega
      rw [hi] at h3
      cases h3
      exact h4
    · intro h
      exact ⟨hpn.mem_iff.mpr (perm.mem_iff.mp (List.mem_flatten.mpr ⟨l, List.mem_of_getElem? hi, h⟩)), hlev i l n hi h⟩
  · rw [nextP_keys]
    exact fnd.sublist (tails_sub lines)
  · omega
  · omega
  · intro l hl
    have : l.Sublist lines.flatten := List.sublist_flatten_of_mem hl
    have := this.length_le
    omega
end Mine

namespace Mine

/-! The plain law's heart: points as (place, height); piles with falling heights. -/
abbrev Pt := Int × Int
def lastH (l : List Pt) : Int := (l.getLastD (0, 0)).2
def headP (l : List Pt) : Int := (l.headD (0, 0)).1
def adj (l : List Pt) : List Pt := List.zipWith (fun a b => (b.1, a.2)) l l.tail
def hitP (a b : Pt) : Prop := a.1 < b.1 ∧ a.2 < b.2
def Fall (l : List Pt) : Prop := l.Pairwise fun a b => a.1 < b.1 ∧ b.2 < a.2
def pAdd : List (List Pt) → Pt → List (List Pt) × List Pt
  | [], p => ([[p]], [])
  | l :: ls, p => if p.2 < lastH l then ((l ++ [p]) :: ls, [(p.1, lastH l)]) else (l :: (pAdd ls p).1, (pAdd ls p).2)
def pil (P : List Pt) : List (List Pt) × List Pt := P.foldl (fun st p => ((pAdd st.1 p).1, st.2 ++ (pAdd st.1 p).2)) ([], [])
def insT (P : List Pt) : List (List Int) × List (List Int) := P.foldl (fun st x => insAt st.1 st.2 x.1 x.2) ([], [])
theorem pil_snoc (P : List Pt) (p : Pt) : pil (P ++ [p]) = ((pAdd (pil P).1 p).1, (pil P).2 ++ (pAdd (pil P).1 p).2) := by
  unfold pil; rw [List.foldl_append]; rfl
theorem insT_snoc (P : List Pt) (p : Pt) : insT (P ++ [p]) = insAt (insT P).1 (insT P).2 p.1 p.2 := by
  unfold insT; rw [List.foldl_append]; rfl
theorem snoc_ind {α : Type} {M : List α → Prop} (h0 : M []) (h1 : ∀ l a, M l → M (l ++ [a])) (l : List α) : M l := by
  have key : ∀ l : List α, M l.reverse := by
    intro l
    induction l with
    | nil => exact h0
    | cons a l ih => rw [List.reverse_cons]; exact h1 _ _ ih
  have := key l.reverse
  rwa [List.reverse_reverse] at this
theorem lastH_snoc (l : List Pt) (p : Pt) : lastH (l ++ [p]) = p.2 := by
  unfold lastH
  rw [List.getLastD_eq_getLast?, List.getLast?_append]
  rfl
theorem headP_snoc {l : List Pt} (h : l ≠ []) (p : Pt) : headP (l ++ [p]) = headP l := by
  cases l with
  | nil => exact absurd rfl h
  | cons a l => rfl
theorem last_mem {l : List Pt} (h : l ≠ []) : l.getLastD (0, 0) ∈ l := by
  rw [List.getLastD_eq_getLast?, List.getLast?_eq_some_getLast h]
  exact List.getLast_mem h
theorem adj_snoc {l : List Pt} (h : l ≠ []) (p : Pt) : adj (l ++ [p]) = adj l ++ [(p.1, lastH l)] := by
  induction l with
  | nil => exact absurd rfl h
  | cons a l ih =>
    cases l with
    | nil => rfl
    | cons b l =>
      have := ih (by simp)
      have e : lastH (a :: b :: l) = lastH (b :: l) := rfl
      rw [e]
      show (b.1, a.2) :: adj ((b :: l) ++ [p]) = ((b.1, a.2) :: adj (b :: l)) ++ _
      rw [this]; rfl

theorem pAdd_ins (p : Pt) : ∀ ls : List (List Pt), (∀ l ∈ ls, l ≠ []) →
    ((pAdd ls p).2 = [] ∧ (ls.map lastH).find? (fun o => decide (p.2 < o)) = none ∧ (pAdd ls p).1.map lastH = ls.map lastH ++ [p.2] ∧ (pAdd ls p).1.map headP = ls.map headP ++ [p.1]) ∨
    ∃ g, (pAdd ls p).2 = [(p.1, g)] ∧ (ls.map lastH).find? (fun o => decide (p.2 < o)) = some g ∧ (pAdd ls p).1.map lastH = (ls.map lastH).set ((ls.map lastH).idxOf g) p.2 ∧ (pAdd ls p).1.map headP = ls.map headP
  | [], _ => .inl ⟨rfl, rfl, rfl, rfl⟩
  | l :: ls, hne => by
    have ih := pAdd_ins p ls (fun m hm => hne m (.tail _ hm))
    by_cases h : p.2 < lastH l
    · refine .inr ⟨lastH l, ?_, ?_, ?_, ?_⟩
      · simp [pAdd, h]
      · simp [h]
      · rw [pAdd, if_pos h]
        simp [lastH_snoc]
      · rw [pAdd, if_pos h]
        simp [headP_snoc (hne l (.head _))]
    · rcases ih with ⟨h1, h2, h3, h4⟩ | ⟨g, h1, h2, h3, h4⟩
      · refine .inl ⟨?_, ?_, ?_, ?_⟩
        · rw [pAdd, if_neg h]; exact h1
        · rw [List.map_cons, List.find?_cons_of_neg (by simpa using h)]; exact h2
        · rw [pAdd, if_neg h, List.map_cons, h3]; rfl
        · rw [pAdd, if_neg h, List.map_cons, h4]; rfl
      · have hg : lastH l ≠ g := by
          intro e
          have := List.find?_some h2
          rw [← e] at this
          exact h (of_decide_eq_true this)
        refine .inr ⟨g, ?_, ?_, ?_, ?_⟩
        · rw [pAdd, if_neg h]; exact h1
        · rw [List.map_cons, List.find?_cons_of_neg (by simpa using h)]; exact h2
        · rw [pAdd, if_neg h, List.map_cons, h3, List.map_cons, List.idxOf_cons, beq_eq_false_iff_ne.mpr hg]; rfl
        · rw [pAdd, if_neg h, List.map_cons, h4]; rfl

/-- the piles' shape -/
def PInv : List (List Pt) → Prop
  | [] => True
  | l :: ls => l ≠ [] ∧ Fall l ∧ (∀ m ∈ ls, lastH l < lastH m) ∧ (∀ m ∈ ls, ∀ a ∈ l, ∀ b ∈ m, ¬ hitP b a) ∧ (∀ m, ls.head? = some m → ∀ b ∈ m, ∃ a ∈ l, hitP a b) ∧ PInv ls
theorem PInv.mem : ∀ {ls : List (List Pt)}, PInv ls → ∀ l ∈ ls, l ≠ [] ∧ Fall l
  | [], _, _, hl => by cases hl
  | m :: ls, h, l, hl => by
    rcases List.mem_cons.mp hl with rfl | hl
    · exact ⟨h.1, h.2.1⟩
    · exact PInv.mem h.2.2.2.2.2 l hl
theorem fall_last {l : List Pt} (h : Fall l) : ∀ a ∈ l, lastH l ≤ a.2 := by
  induction l using snoc_ind with
  | h0 => intro a ha; cases ha
  | h1 l q _ =>
    intro a ha
    rw [lastH_snoc]
    rcases List.mem_append.mp ha with ha | ha
    · have := (List.pairwise_append.mp h).2.2 a ha q (.head _)
      omega
    · rw [List.mem_singleton.mp ha]; exact Int.le_refl _
theorem pAdd_mem (p : Pt) : ∀ (ls : List (List Pt)), ∀ m ∈ (pAdd ls p).1, (lastH m = p.2 ∨ m ∈ ls) ∧ ∀ b ∈ m, b = p ∨ ∃ l ∈ ls, b ∈ l
  | [], m, hm => by
    rw [List.mem_singleton.mp hm]
    exact ⟨.inl rfl, fun b hb => .inl (List.mem_singleton.mp hb)⟩
  | l :: ls, m, hm => by
    by_cases h : p.2 < lastH l
    · rw [pAdd, if_pos h] at hm
      rcases List.mem_cons.mp hm with rfl | hm
      · refine ⟨.inl (lastH_snoc l p), fun b hb => ?_⟩
        rcases List.mem_append.mp hb with hb | hb
        · exact .inr ⟨l, .head _, hb⟩
        · exact .inl (List.mem_singleton.mp hb)
      · exact ⟨.inr (.tail _ hm), fun b hb => .inr ⟨m, .tail _ hm, hb⟩⟩
    · rw [pAdd, if_neg h] at hm
      rcases List.mem_cons.mp hm with rfl | hm
      · exact ⟨.inr (.head _), fun b hb => .inr ⟨m, .head _, hb⟩⟩
      · obtain ⟨h1, h2⟩ := pAdd_mem p ls m hm
        refine ⟨h1.imp id (fun q => .tail _ q), fun b hb => (h2 b hb).imp id ?_⟩
        rintro ⟨l', hl', hb'⟩
        exact ⟨l', .tail _ hl', hb'⟩
theorem pAdd_head (p : Pt) (ls : List (List Pt)) : ∀ m, (pAdd ls p).1.head? = some m → ∀ b ∈ m, b = p ∨ ∃ l, ls.head? = some l ∧ b ∈ l := by
  intro m hm b hb
  cases ls with
  | nil =>
    cases hm
    exact .inl (List.mem_singleton.mp hb)
  | cons l ls =>
    by_cases h : p.2 < lastH l
    · rw [pAdd, if_pos h] at hm
      cases hm
      rcases List.mem_append.mp hb with hb | hb
      · exact .inr ⟨l, rfl, hb⟩
      · exact .inl (List.mem_singleton.mp hb)
    · rw [pAdd, if_neg h] at hm
      cases hm
      exact .inr ⟨_, rfl, hb⟩
theorem pAdd_inv (p : Pt) : ∀ ls : List (List Pt), PInv ls → (∀ m ∈ ls, ∀ a ∈ m, a.1 < p.1 ∧ a.2 ≠ p.2) → PInv (pAdd ls p).1
  | [], _, _ => ⟨by simp, List.pairwise_singleton _ _, (fun m hm => by cases hm), (fun m hm => by cases hm), (fun m hm => by cases hm), trivial⟩
  | l :: ls, hI, hp => by
    obtain ⟨h1, h2, h3, h4, h5, h6⟩ := hI
    have hl := hp l (.head _)
    by_cases h : p.2 < lastH l
    · rw [pAdd, if_pos h]
      refine ⟨by simp, ?_, fun m hm => ?_, fun m hm a ha b hb hh => ?_, fun m hm b hb => ?_, h6⟩
      · refine List.pairwise_append.mpr ⟨h2, List.pairwise_singleton _ _, fun a ha b hb => ?_⟩
        rw [List.mem_singleton.mp hb]
        have := fall_last h2 a ha
        exact ⟨(hl a ha).1, by omega⟩
      · rw [lastH_snoc]
        have := h3 m hm
        omega
      · rcases List.mem_append.mp ha with ha | ha
        · exact h4 m hm a ha b hb hh
        · rw [List.mem_singleton.mp ha] at hh
          have e1 := fall_last (PInv.mem h6 m hm).2 b hb
          have e2 := h3 m hm
          have e3 := hh.2
          omega
      · obtain ⟨a, ha, hh⟩ := h5 m hm b hb
        exact ⟨a, List.mem_append_left _ ha, hh⟩
    · rw [pAdd, if_neg h]
      have hlast := hl _ (last_mem h1)
      have hlt : lastH l < p.2 := by
        have e : (l.getLastD (0, 0)).2 = lastH l := rfl
        rw [e] at hlast
        omega
      refine ⟨h1, h2, fun m hm => ?_, fun m hm a ha b hb hh => ?_, fun m hm b hb => ?_, pAdd_inv p ls h6 (fun m hm => hp m (.tail _ hm))⟩
      · rcases (pAdd_mem p ls m hm).1 with e | e
        · omega
        · exact h3 m e
      · rcases (pAdd_mem p ls m hm).2 b hb with rfl | ⟨l', hl', hb'⟩
        · have e1 := (hl a ha).1
          have e2 := hh.1
          omega
        · exact h4 l' hl' a ha b hb' hh
      · rcases pAdd_head p ls m hm b hb with rfl | ⟨l', hl', hb'⟩
        · exact ⟨_, last_mem h1, hlast.1, hlt⟩
        · exact h5 l' hl' b hb'
theorem pAdd_perm (p : Pt) : ∀ ls : List (List Pt), (pAdd ls p).1.flatten.Perm (ls.flatten ++ [p])
  | [] => .refl _
  | l :: ls => by
    by_cases h : p.2 < lastH l
    · rw [pAdd, if_pos h, List.flatten_cons, List.flatten_cons, List.append_assoc, List.append_assoc]
      exact List.perm_append_comm.append_left l
    · rw [pAdd, if_neg h, List.flatten_cons, List.flatten_cons, List.append_assoc]
      exact (pAdd_perm p ls).append_left l
theorem pAdd_adj (p : Pt) : ∀ ls : List (List Pt), (∀ l ∈ ls, l ≠ []) → ((pAdd ls p).1.flatMap adj).Perm (ls.flatMap adj ++ (pAdd ls p).2)
  | [], _ => .refl _
  | l :: ls, hne => by
    by_cases h : p.2 < lastH l
    · rw [pAdd, if_pos h, List.flatMap_cons, List.flatMap_cons, adj_snoc (hne l (.head _)), List.append_assoc, List.append_assoc]
      exact List.perm_append_comm.append_left _
    · rw [pAdd, if_neg h, List.flatMap_cons, List.flatMap_cons, List.append_assoc]
      exact (pAdd_adj p ls (fun m hm => hne m (.tail _ hm))).append_left _
theorem pAdd_len (p : Pt) (ls : List (List Pt)) : (pAdd ls p).1 ≠ [] := by
  cases ls with
  | nil => exact List.cons_ne_nil _ _
  | cons l ls => rw [pAdd]; split <;> exact List.cons_ne_nil _ _
theorem pAdd_keys (p : Pt) : ∀ ls : List (List Pt), ((pAdd ls p).2.map (·.1)).Sublist [p.1]
  | [] => List.nil_sublist _
  | l :: ls => by
    rw [pAdd]
    split
    · exact .refl _
    · exact pAdd_keys p ls

/-- points in the places' order, no height twice -/
structure PS (P : List Pt) : Prop where
  srt : P.Pairwise fun a b => a.1 < b.1
  nd : (P.map (·.2)).Nodup
theorem PS.init {P : List Pt} {p : Pt} (h : PS (P ++ [p])) : PS P ∧ ∀ a ∈ P, a.1 < p.1 ∧ a.2 ≠ p.2 := by
  obtain ⟨h1, _, h3⟩ := List.pairwise_append.mp h.srt
  have h4 := h.nd
  rw [List.map_append, List.nodup_append] at h4
  exact ⟨⟨h1, h4.1⟩, fun a ha => ⟨h3 a ha p (.head _), h4.2.2 _ (List.mem_map_of_mem ha) _ (.head _)⟩⟩
structure PilOk (P : List Pt) : Prop where
  inv : PInv (pil P).1
  perm : (pil P).1.flatten.Perm P
  adj : ((pil P).1.flatMap adj).Perm (pil P).2
  keys : ((pil P).2.map (·.1)).Sublist (P.map (·.1))
  ne : P ≠ [] → (pil P).1 ≠ []
theorem pil_ok (P : List Pt) : PS P → PilOk P := by
  induction P using snoc_ind with
  | h0 => intro _; exact ⟨trivial, .refl _, .refl _, .slnil, fun h => absurd rfl h⟩
  | h1 P p ih =>
    intro hP
    obtain ⟨h1, h2⟩ := hP.init
    have I := ih h1
    refine ⟨?_, ?_, ?_, ?_, fun _ => ?_⟩
    · rw [pil_snoc]
      exact pAdd_inv p _ I.inv fun m hm a ha => h2 a (I.perm.mem_iff.mp (List.mem_flatten.mpr ⟨m, hm, ha⟩))
    · rw [pil_snoc]
      exact (pAdd_perm p _).trans (I.perm.append_right [p])
    · rw [pil_snoc]
      exact (pAdd_adj p _ (fun l hl => (PInv.mem I.inv l hl).1)).trans (I.adj.append_right _)
    · rw [pil_snoc]
      dsimp only
      rw [List.map_append, List.map_append]
      exact I.keys.append (pAdd_keys p _)
    · rw [pil_snoc]
      exact pAdd_len p _
theorem insT_step (P : List Pt) : PS P → P ≠ [] → insT P = ((pil P).1.map lastH :: (insT (pil P).2).1, (pil P).1.map headP :: (insT (pil P).2).2) := by
  induction P using snoc_ind with
  | h0 => intro _ h; exact absurd rfl h
  | h1 P p ih =>
    intro hP _
    obtain ⟨h1, h2⟩ := hP.init
    by_cases e : P = []
    · subst e; rfl
    · have I := pil_ok P h1
      rw [insT_snoc, pil_snoc, ih h1 e]
      dsimp only
      rw [insAt]
      rcases pAdd_ins p (pil P).1 (fun l hl => (PInv.mem I.inv l hl).1) with ⟨a1, a2, a3, a4⟩ | ⟨g, a1, a2, a3, a4⟩
      · rw [a2, a1, a3, a4, List.append_nil]
      · rw [a2, a1, a3, a4, insT_snoc]
theorem adj_snd (l : List Pt) : (adj l).map (·.2) = l.dropLast.map (·.2) := by
  induction l using snoc_ind with
  | h0 => rfl
  | h1 l p ih =>
    by_cases e : l = []
    · subst e; rfl
    · rw [adj_snoc e, List.map_append, ih, List.dropLast_concat]
      conv => rhs; rw [← List.dropLast_concat_getLast e, List.map_append]
      congr 1
      unfold lastH
      rw [List.getLastD_eq_getLast?, List.getLast?_eq_some_getLast e]
      rfl
theorem adj_len {l : List Pt} (h : l ≠ []) : (adj l).length + 1 = l.length := by
  have := congrArg List.length (adj_snd l)
  rw [List.length_map, List.length_map, List.length_dropLast] at this
  have := List.length_pos_iff.mpr h
  omega
theorem adjs_snd : ∀ ls : List (List Pt), ((ls.flatMap adj).map (·.2)).Sublist (ls.flatten.map (·.2))
  | [] => .slnil
  | l :: ls => by
    rw [List.flatMap_cons, List.flatten_cons, List.map_append, List.map_append, adj_snd]
    exact ((List.dropLast_sublist l).map _).append (adjs_snd ls)
theorem adjs_len : ∀ ls : List (List Pt), (∀ l ∈ ls, l ≠ []) → (ls.flatMap adj).length + ls.length = ls.flatten.length
  | [], _ => rfl
  | l :: ls, h => by
    have h1 := adjs_len ls (fun m hm => h m (.tail _ hm))
    have h2 := adj_len (h l (.head _))
    rw [List.flatMap_cons, List.flatten_cons, List.length_append, List.length_append, List.length_cons]
    omega
theorem pil_next {P : List Pt} (hP : PS P) (hne : P ≠ []) : PS (pil P).2 ∧ (pil P).2.length < P.length := by
  have I := pil_ok P hP
  have hl := adjs_len (pil P).1 (fun l hl => (PInv.mem I.inv l hl).1)
  have e1 := I.adj.length_eq
  have e2 := I.perm.length_eq
  have e3 := List.length_pos_iff.mpr (I.ne hne)
  refine ⟨⟨?_, ?_⟩, by omega⟩
  · have h1 : (P.map (·.1)).Pairwise (· < ·) := List.pairwise_map.mpr hP.srt
    exact List.pairwise_map.mp (h1.sublist I.keys)
  · rw [← (I.adj.map (·.2)).nodup_iff]
    exact ((I.perm.map (·.2)).nodup_iff.mpr hP.nd).sublist (adjs_snd _)
theorem up_idx : ∀ {ls : List (List Pt)}, PInv ls → ∀ (i j : Nat) l m a b, ls[i]? = some l → ls[j]? = some m → a ∈ l → b ∈ m → hitP a b → i < j
  | [], _, i, _, _, _, _, _, h, _, _, _, _ => by simp at h
  | q :: ls, I, i, j, l, m, a, b, hi, hj, ha, hb, hh => by
    obtain ⟨h1, h2, h3, h4, h5, h6⟩ := I
    cases i with
    | zero =>
      cases j with
      | zero =>
        cases hi; cases hj
        -- one pile
        obtain ⟨x, hx, ex⟩ := List.mem_iff_getElem.mp ha
        obtain ⟨y, hy, ey⟩ := List.mem_iff_getElem.mp hb
        have hp := List.pairwise_iff_getElem.mp h2
        obtain ⟨g1, g2⟩ := hh
        rcases Nat.lt_trichotomy x y with h | h | h
        · have := hp x y hx hy h
          rw [ex, ey] at this
          omega
        · subst h
          rw [ex] at ey
          subst ey
          omega
        · have := hp y x hy hx h
          rw [ex, ey] at this
          omega
      | succ j => omega
    | succ i =>
      rw [List.getElem?_cons_succ] at hi
      cases j with
      | zero =>
        cases hj
        exact absurd hh (h4 l (List.mem_of_getElem? hi) b hb a ha)
      | succ j =>
        rw [List.getElem?_cons_succ] at hj
        have := up_idx h6 i j l m a b hi hj ha hb hh
        omega
theorem low_idx : ∀ {ls : List (List Pt)}, PInv ls → ∀ (i : Nat) l m b, ls[i]? = some l → ls[i + 1]? = some m → b ∈ m → ∃ a ∈ l, hitP a b
  | [], _, i, _, _, _, h, _, _ => by simp at h
  | q :: ls, I, i, l, m, b, hi, hj, hb => by
    obtain ⟨h1, h2, h3, h4, h5, h6⟩ := I
    rw [List.getElem?_cons_succ] at hj
    cases i with
    | zero =>
      cases hi
      exact h5 m (by rw [List.head?_eq_getElem?]; exact hj) b hb
    | succ i =>
      rw [List.getElem?_cons_succ] at hi
      exact low_idx h6 i l m b hi hj hb
end Mine

namespace Mine

theorem kVal_mem {pts : List Pt} (nd : (pts.map (·.1)).Nodup) {a : Pt} (ha : a ∈ pts) : kVal pts a.1 = some a.2 := by
  induction pts with
  | nil => cases ha
  | cons q pts ih =>
    rw [List.map_cons, List.nodup_cons] at nd
    unfold kVal
    by_cases e : q.1 = a.1
    · have hq : q = a := by
        rcases List.mem_cons.mp ha with h | h
        · exact h.symm
        · exact absurd (List.mem_map_of_mem h) (e ▸ nd.1)
      subst hq
      simp
    · have hr : a ∈ pts := by
        rcases List.mem_cons.mp ha with h | h
        · exact absurd (congrArg Prod.fst h).symm e
        · exact h
      have := ih nd.2 hr
      unfold kVal at this
      rw [List.find?_cons_of_neg (by simpa using e)]
      exact this
theorem pv_mem {pts : List Pt} (nd : (pts.map (·.1)).Nodup) {a : Pt} (ha : a ∈ pts) : pv pts a.1 = a.2 := by
  unfold pv; rw [kVal_mem nd ha]; rfl

/-- one pile, told by places -/
theorem line_adj {pts : List Pt} : ∀ {l : List Pt}, (∀ a ∈ l, pv pts a.1 = a.2) → lineNext pts (l.map (·.1)) = adj l
  | [], _ => rfl
  | [_], _ => rfl
  | a :: b :: l, h => by
    have ih := line_adj (l := b :: l) (fun c hc => h c (.tail _ hc))
    show (b.1, pv pts a.1) :: lineNext pts ((b :: l).map (·.1)) = (b.1, a.2) :: adj (b :: l)
    rw [ih, h a (.head _)]
def swp (a : Pt) : Pt := (a.2, a.1)
theorem headD_rev (l : List Pt) (p : Pt) : ((l ++ [p]).map (·.2)).reverse = p.2 :: (l.map (·.2)).reverse := by
  rw [List.map_append, List.reverse_append]; rfl
theorem line_adj2 {pts : List Pt} (l : List Pt) : (∀ a ∈ l, pv pts a.2 = a.1) → lineNext pts (l.map (·.2)).reverse = ((adj l).map swp).reverse := by
  induction l using snoc_ind with
  | h0 => intro _; rfl
  | h1 l p ih =>
    intro h
    have ih := ih (fun a ha => h a (List.mem_append_left _ ha))
    have hp := h p (List.mem_append_right _ (.head _))
    rw [headD_rev]
    by_cases e : l = []
    · subst e; rfl
    · rw [adj_snoc e, List.map_append, List.reverse_append]
      rw [← ih]
      have hl := List.dropLast_concat_getLast e
      rw [← hl, headD_rev, lastH_snoc]
      show ((l.getLast e).2, pv pts p.2) :: _ = _
      rw [hp]; rfl
theorem perm_flat {α β : Type} {f g : α → List β} : ∀ {l : List α}, (∀ a ∈ l, (f a).Perm (g a)) → (l.flatMap f).Perm (l.flatMap g)
  | [], _ => .refl _
  | a :: l, h => by
    rw [List.flatMap_cons, List.flatMap_cons]
    exact (h a (.head _)).append (perm_flat fun b hb => h b (.tail _ hb))
theorem flat_congr {α β : Type} {f g : α → List β} : ∀ {l : List α}, (∀ a ∈ l, f a = g a) → l.flatMap f = l.flatMap g
  | [], _ => rfl
  | a :: l, h => by rw [List.flatMap_cons, List.flatMap_cons, h a (.head _), flat_congr fun b hb => h b (.tail _ hb)]

def lines1 (P : List Pt) : List (List Int) := (pil P).1.map fun l => l.map (·.1)
def lines2 (P : List Pt) : List (List Int) := (pil P).1.map fun l => (l.map (·.2)).reverse
theorem lines_get {f : List Pt → List Int} {P : List Pt} {i : Nat} {l : List Int} (h : ((pil P).1.map f)[i]? = some l) : ∃ m, (pil P).1[i]? = some m ∧ l = f m := by
  rw [List.getElem?_map] at h
  obtain ⟨m, h1, h2⟩ := Option.map_eq_some_iff.mp h
  exact ⟨m, h1, h2.symm⟩
theorem in_pil {P : List Pt} (I : PilOk P) {i : Nat} {l : List Pt} (h : (pil P).1[i]? = some l) {a : Pt} (ha : a ∈ l) : a ∈ P :=
  I.perm.mem_iff.mp (List.mem_flatten.mpr ⟨l, List.mem_of_getElem? h, ha⟩)

theorem sh_one {n : Nat} : ∀ (P pts : List Pt), P.length = n → n ≤ 400 → PS P → pts.Perm P → Sh pts (insT P).1 (insT P).2 := by
  induction n using Nat.strongRecOn with
  | ind n ih =>
    intro P pts hn hz hP hp
    by_cases e : P = []
    · subst e
      obtain rfl := hp.eq_nil
      exact .nil
    have I := pil_ok P hP
    obtain ⟨hN, hlt⟩ := pil_next hP e
    have nd : (pts.map (·.1)).Nodup := by
      rw [(hp.map (·.1)).nodup_iff]
      exact (List.pairwise_map.mpr hP.srt).imp (fun h => Int.ne_of_lt h)
    have hv : ∀ l ∈ (pil P).1, ∀ a ∈ l, pv pts a.1 = a.2 := fun l hl a ha => pv_mem nd (hp.mem_iff.mpr (I.perm.mem_iff.mp (List.mem_flatten.mpr ⟨l, hl, ha⟩)))
    have hr : rowOf pts (lines1 P) = (pil P).1.map lastH := by
      unfold rowOf lines1
      rw [List.map_map]
      refine List.map_congr_left fun l hl => ?_
      have hne := (PInv.mem I.inv l hl).1
      have := hv l hl _ (last_mem hne)
      show pv pts ((l.map (·.1)).getLastD 0) = lastH l
      unfold lastH
      rw [← this, List.getLastD_eq_getLast?, List.getLastD_eq_getLast?, List.getLast?_map, List.getLast?_eq_some_getLast hne]
      rfl
    have hpl : plOf (lines1 P) = (pil P).1.map headP := by
      unfold plOf lines1
      rw [List.map_map]
      refine List.map_congr_left fun l hl => ?_
      have hne := (PInv.mem I.inv l hl).1
      cases l with
      | nil => exact absurd rfl hne
      | cons a l => rfl
    have hnx : nextP pts (lines1 P) = (pil P).1.flatMap adj := by
      unfold nextP lines1
      rw [List.flatMap_map]
      exact flat_congr fun l hl => line_adj (hv l hl)
    rw [insT_step P hP e]
    dsimp only
    rw [← hr, ← hpl]
    refine .cons (roundOk_of ?_ ?_ nd ?_ ?_ ?_ ?_ ?_) ?_
    · exact fun q => e (by subst q; exact hp.symm.eq_nil)
    · rw [hp.length_eq]; omega
    · unfold lines1
      rw [← List.map_flatten]
      exact (I.perm.trans hp.symm).map (·.1)
    · intro l hl
      obtain ⟨m, hm, rfl⟩ := List.mem_map.mp hl
      exact List.pairwise_map.mpr ((PInv.mem I.inv m hm).2.imp fun h => h.1)
    · intro l hl
      obtain ⟨m, hm, rfl⟩ := List.mem_map.mp hl
      exact fun q => (PInv.mem I.inv m hm).1 (List.map_eq_nil_iff.mp q)
    · intro i j l l' a b hi hj ha hb hh
      obtain ⟨m, hm, rfl⟩ := lines_get hi
      obtain ⟨m', hm', rfl⟩ := lines_get hj
      obtain ⟨x, hx, rfl⟩ := List.mem_map.mp ha
      obtain ⟨y, hy, rfl⟩ := List.mem_map.mp hb
      obtain ⟨h1, h2⟩ := Bool.and_eq_true_iff.mp hh
      rw [hv m (List.mem_of_getElem? hm) x hx, hv m' (List.mem_of_getElem? hm') y hy] at h2
      exact up_idx I.inv i j m m' x y hm hm' hx hy ⟨of_decide_eq_true h1, of_decide_eq_true h2⟩
    · intro i l l' b hi hj hb
      obtain ⟨m, hm, rfl⟩ := lines_get hi
      obtain ⟨m', hm', rfl⟩ := lines_get hj
      obtain ⟨y, hy, rfl⟩ := List.mem_map.mp hb
      obtain ⟨x, hx, h1, h2⟩ := low_idx I.inv i m m' y hm hm' hy
      refine ⟨x.1, List.mem_map_of_mem hx, ?_⟩
      unfold eHit
      rw [hv m (List.mem_of_getElem? hm) x hx, hv m' (List.mem_of_getElem? hm') y hy, decide_eq_true h1, decide_eq_true h2]
      rfl
    · exact ih _ (by omega) (pil P).2 _ rfl (by omega) hN (hnx ▸ I.adj)

theorem sh_two {n : Nat} : ∀ (P pts : List Pt), P.length = n → n ≤ 400 → PS P → pts.Perm (P.map swp) → Sh pts (insT P).2 (insT P).1 := by
  induction n using Nat.strongRecOn with
  | ind n ih =>
    intro P pts hn hz hP hp
    by_cases e : P = []
    · subst e
      obtain rfl := hp.eq_nil
      exact .nil
    have I := pil_ok P hP
    obtain ⟨hN, hlt⟩ := pil_next hP e
    have ek : (P.map swp).map (·.1) = P.map (·.2) := by rw [List.map_map]; rfl
    have nd : (pts.map (·.1)).Nodup := by
      rw [(hp.map (·.1)).nodup_iff, ek]
      exact hP.nd
    have hv : ∀ l ∈ (pil P).1, ∀ a ∈ l, pv pts a.2 = a.1 := fun l hl a ha => pv_mem (a := swp a) nd (hp.mem_iff.mpr (List.mem_map_of_mem (I.perm.mem_iff.mp (List.mem_flatten.mpr ⟨l, hl, ha⟩))))
    have hr : rowOf pts (lines2 P) = (pil P).1.map headP := by
      unfold rowOf lines2
      rw [List.map_map]
      refine List.map_congr_left fun l hl => ?_
      have hne := (PInv.mem I.inv l hl).1
      cases l with
      | nil => exact absurd rfl hne
      | cons a l =>
        have := hv _ hl a (.head _)
        show pv pts (((a :: l).map (·.2)).reverse.getLastD 0) = a.1
        rw [List.map_cons, List.reverse_cons, List.getLastD_eq_getLast?, List.getLast?_append]
        exact this
    have hpl : plOf (lines2 P) = (pil P).1.map lastH := by
      unfold plOf lines2
      rw [List.map_map]
      refine List.map_congr_left fun l hl => ?_
      have hne := (PInv.mem I.inv l hl).1
      show ((l.map (·.2)).reverse).headD 0 = lastH l
      rw [← List.dropLast_concat_getLast hne, headD_rev, lastH_snoc]
      rfl
    have hnx : (nextP pts (lines2 P)).Perm (((pil P).1.flatMap adj).map swp) := by
      unfold nextP lines2
      rw [List.flatMap_map, List.map_flatMap]
      refine perm_flat fun l hl => ?_
      rw [line_adj2 l (hv l hl)]
      exact List.reverse_perm _
    rw [insT_step P hP e]
    dsimp only
    rw [← hr, ← hpl]
    refine .cons (roundOk_of ?_ ?_ nd ?_ ?_ ?_ ?_ ?_) ?_
    · exact fun q => e (List.map_eq_nil_iff.mp (by subst q; exact hp.symm.eq_nil))
    · rw [hp.length_eq, List.length_map]; omega
    · refine List.Perm.trans ?_ ((I.perm.map (·.2)).trans (((hp.map (·.1)).trans (List.Perm.of_eq ek)).symm))
      unfold lines2
      rw [← List.flatMap_def, List.map_flatten, ← List.flatMap_def]
      exact perm_flat fun l _ => List.reverse_perm _
    · intro l hl
      obtain ⟨m, hm, rfl⟩ := List.mem_map.mp hl
      rw [List.pairwise_reverse]
      exact List.pairwise_map.mpr ((PInv.mem I.inv m hm).2.imp fun h => h.2)
    · intro l hl
      obtain ⟨m, hm, rfl⟩ := List.mem_map.mp hl
      exact fun q => (PInv.mem I.inv m hm).1 (List.map_eq_nil_iff.mp (List.reverse_eq_nil_iff.mp q))
    · intro i j l l' a b hi hj ha hb hh
      obtain ⟨m, hm, rfl⟩ := lines_get hi
      obtain ⟨m', hm', rfl⟩ := lines_get hj
      obtain ⟨x, hx, rfl⟩ := List.mem_map.mp (List.mem_reverse.mp ha)
      obtain ⟨y, hy, rfl⟩ := List.mem_map.mp (List.mem_reverse.mp hb)
      obtain ⟨h1, h2⟩ := Bool.and_eq_true_iff.mp hh
      rw [hv m (List.mem_of_getElem? hm) x hx, hv m' (List.mem_of_getElem? hm') y hy] at h2
      exact up_idx I.inv i j m m' x y hm hm' hx hy ⟨of_decide_eq_true h2, of_decide_eq_true h1⟩
    · intro i l l' b hi hj hb
      obtain ⟨m, hm, rfl⟩ := lines_get hi
      obtain ⟨m', hm', rfl⟩ := lines_get hj
      obtain ⟨y, hy, rfl⟩ := List.mem_map.mp (List.mem_reverse.mp hb)
      obtain ⟨x, hx, h1, h2⟩ := low_idx I.inv i m m' y hm hm' hy
      refine ⟨x.2, List.mem_reverse.mpr (List.mem_map_of_mem hx), ?_⟩
      unfold eHit
      rw [hv m (List.mem_of_getElem? hm) x hx, hv m' (List.mem_of_getElem? hm') y hy, decide_eq_true h1, decide_eq_true h2]
      rfl
    · exact ih _ (by omega) (pil P).2 _ rfl (by omega) hN (hnx.trans (I.adj.map swp))
end Mine

namespace Mine

theorem insT_enum (hs : List Int) : insT (enumPts hs) = insSt hs hs.length := by
  unfold insT insSt enumPts
  rw [List.foldl_map, List.take_length]
theorem zip_fst : ∀ (hs : List Int) (k : Nat), ((hs.zipIdx k).map fun p => ((p.2 : Int), p.1)).Pairwise (fun a b => a.1 < b.1) ∧ ∀ a ∈ (hs.zipIdx k).map (fun p => ((p.2 : Int), p.1)), (k : Int) ≤ a.1
  | [], _ => ⟨.nil, fun a ha => by cases ha⟩
  | h :: hs, k => by
    obtain ⟨h1, h2⟩ := zip_fst hs (k + 1)
    rw [List.zipIdx_cons, List.map_cons]
    refine ⟨List.pairwise_cons.mpr ⟨fun a ha => ?_, h1⟩, fun a ha => ?_⟩
    · have := h2 a ha
      show (k : Int) < a.1
      omega
    · rcases List.mem_cons.mp ha with rfl | ha
      · exact Int.le_refl _
      · have := h2 a ha
        omega
theorem enum_snd (hs : List Int) : (enumPts hs).map (·.2) = hs := by
  unfold enumPts
  rw [List.map_map]
  exact List.zipIdx_map_fst 0 hs
theorem enum_ps {hs : List Int} (nd : hs.Nodup) : PS (enumPts hs) := ⟨(zip_fst hs 0).1, by rw [enum_snd]; exact nd⟩
theorem enum_len (hs : List Int) : (enumPts hs).length = hs.length := by simp [enumPts]
theorem swap_enum (hs : List Int) : swapPts hs = (enumPts hs).map swp := by
  unfold swapPts enumPts
  rw [List.map_map]; rfl
theorem plain_of {hs : List Int} (nd : hs.Nodup) (z : hs.length ≤ 10) : Plain hs := by
  refine ⟨nd, z, ?_, ?_⟩
  · rw [← insT_enum]
    exact sh_one (enumPts hs) (enumPts hs) rfl (by rw [enum_len]; omega) (enum_ps nd) (.refl _)
  · rw [← insT_enum]
    exact sh_two (enumPts hs) (swapPts hs) rfl (by rw [enum_len]; omega) (enum_ps nd) (.of_eq (swap_enum hs))

theorem erase_perm : ∀ {l : List Int} {i : Nat} (h : i < l.length), (l[i] :: l.eraseIdx i).Perm l
  | _ :: _, 0, _ => .refl _
  | a :: l, i + 1, h => by
    rw [List.getElem_cons_succ, List.eraseIdx_cons_succ]
    exact (List.Perm.swap a _ _).trans ((erase_perm (l := l) (i := i) (by simpa using h)).cons a)
theorem pop_perm (st : List Int × List Int) (x : Int) (h : st.1 ≠ []) : ((popOne st x).1 ++ (popOne st x).2).Perm (st.1 ++ st.2) := by
  have hl := List.length_pos_iff.mpr h
  obtain ⟨a, b⟩ := fmod_bounds x (n := st.1.length) (by omega)
  have hi : (x.fmod st.1.length).toNat < st.1.length := by omega
  unfold popOne
  dsimp only
  generalize (x.fmod st.1.length).toNat = i at hi
  rw [List.getD_eq_getElem?_getD, List.getElem?_eq_getElem hi, Option.getD_some]
  have e : (st.1.eraseIdx i ++ (st.2 ++ [st.1[i]])).Perm (st.1[i] :: st.1.eraseIdx i ++ st.2) := by
    rw [← List.append_assoc]
    exact List.perm_append_singleton _ _
  exact e.trans ((erase_perm hi).append_right _)
theorem popAll_perm {left nums : List Int} : ∀ i, i ≤ nums.length → i ≤ left.length → ((popAll left (nums.take i)).1 ++ (popAll left (nums.take i)).2).Perm left
  | 0, _, _ => by simp [popAll]
  | i + 1, h1, h2 => by
    have ih := popAll_perm (left := left) (nums := nums) i (by omega) (by omega)
    obtain ⟨a, b⟩ := popAll_len (left := left) (nums := nums) i (by omega) (by omega)
    have hx : nums[i]? = some nums[i] := List.getElem?_eq_getElem (by omega)
    rw [popAll_take hx]
    exact (pop_perm _ _ (fun q => by rw [q] at a; simp at a; omega)).trans ih
theorem upTo_len (n : Nat) : (upTo n).length = n := by simp [upTo]
theorem upTo_nd (n : Nat) : (upTo n).Nodup := by
  unfold upTo
  exact List.Pairwise.map _ (fun a b h e => h (by omega)) List.nodup_range
theorem PL (ns : List Int) : Plain (heightsOf ns) := by
  obtain ⟨h4, h9, _⟩ := lawN_bounds (drawAt ns 0)
  have hd : (draws ns).length = 11 := by simp [draws]
  have hl : (((draws ns).drop 1).take (upTo (lawN (drawAt ns 0))).length).length = lawN (drawAt ns 0) := by
    rw [List.length_take, List.length_drop, hd, upTo_len]; omega
  have ht : ((draws ns).drop 1).take (upTo (lawN (drawAt ns 0))).length = (((draws ns).drop 1).take (upTo (lawN (drawAt ns 0))).length).take (lawN (drawAt ns 0)) := by
    rw [List.take_take, upTo_len, Nat.min_self]
  obtain ⟨a, b⟩ := popAll_len (left := upTo (lawN (drawAt ns 0))) (nums := ((draws ns).drop 1).take (upTo (lawN (drawAt ns 0))).length) (lawN (drawAt ns 0)) (by rw [hl]; exact Nat.le_refl _) (by rw [upTo_len]; exact Nat.le_refl _)
  have p := popAll_perm (left := upTo (lawN (drawAt ns 0))) (nums := ((draws ns).drop 1).take (upTo (lawN (drawAt ns 0))).length) (lawN (drawAt ns 0)) (by rw [hl]; exact Nat.le_refl _) (by rw [upTo_len]; exact Nat.le_refl _)
  rw [← ht] at a b p
  have he : (popAll (upTo (lawN (drawAt ns 0))) (((draws ns).drop 1).take (upTo (lawN (drawAt ns 0))).length)).1 = [] := List.eq_nil_of_length_eq_zero (by rw [a, upTo_len]; omega)
  rw [he, List.nil_append] at p
  exact plain_of (p.nodup_iff.mpr (upTo_nd _)) (by unfold heightsOf; omega)
end Mine

namespace Mine
open PySem PySem.W PySem.Calls PyProof.Rows

/-! A head for walks in clean contexts: the caller of a claim stands in such a one. -/

theorem Alone.keeps {s s' : Shared} (h : Alone s) (hk : ∀ b o, s.heap.get? b = some o → s'.heap.get? b = some o) : Alone s' := let ⟨m, h1, h2⟩ := h; ⟨m, h1.keeps hk, h2⟩
/-- where the text brings in no module, no thread was made -/
theorem alone_of {s : Shared} {mods : List Str} (hm : mods = []) (hs : staticsAccountedI s.heap mods) (hl : s.heap.NoLimit) : Alone s := by
  subst hm
  obtain ⟨mc, hn, _⟩ := hl
  refine ⟨mc, hn, ?_⟩
  obtain ⟨o, es, ep, ho, hd, _, hf⟩ := hn
  have e : staticOf s.heap "_thread.count" = mc "_thread.count" := by simp only [staticOf, ho, hd]; exact hf _
  rw [← e]
  cases q : staticOf s.heap "_thread.count" with
  | none => rfl
  | some v =>
    exfalso
    rcases hs _ v q with h | h | ⟨m, h, _⟩ | ⟨m, h, _⟩ | ⟨⟨m, h, _⟩, _⟩ | ⟨m, _, _, h, _⟩ | ⟨m, h, _⟩
    · exact absurd h (by decide +kernel)
    · exact absurd h (by decide +kernel)
    all_goals cases h

/-- where a call of the claim begins -/
structure Start (q : Program) (loose : List Str) (XP : (Str → Option Value) → Heap → Prop) (YP : World → Heap → Prop) (r : RowW) (w : World) (s₀ s : Shared) (mg mb : Str → Option Value) : Prop where
  ground : Ground q loose r.records XP w s₀ mg mb s.heap
  says : YP w s.heap
  alone : importedModules r.prog.main.body = [] → Alone s
  gens : s.gens = #[]
/-- the call's end, as the claim asks for it -/
def EndsWell (r : RowW) (s₀ s₁ : Shared) (args : List WData) (v : Value) (s' : Shared) : Prop := GoodWG r.claim (classAt s₀.heap) (ExcName.means s₀.heap) args s₁ (.ok (.ret v)) s'
/-- what a walk in clean contexts has to show -/
def WalkC (q : Program) (loose : List Str) (XP : (Str → Option Value) → Heap → Prop) (YP : World → Heap → Prop) (r : RowW) (name : Str) : Prop :=
  ∀ (w : World) (s₀ s₁ : Shared) (mg mb : Str → Option Value), Start q loose XP YP r w s₀ s₁ mg mb → ∀ f : Addr, mg name = some (.ref f) → ∀ (args : List WData) (vals : List Value) (as : List Addr), r.claim.pre args = true → WData.layableAll args = true →
    ReadsAllW r.records (classAt s₀.heap) s₁.heap vals args as → WellAll w.params s₁.heap vals args → (∀ a ∈ as, (a == sysModules) = false) → Wc r.prog w callerA (PySem.call (.ref f) vals) (EndsWell r s₀ s₁ args) s₁
def callTree (name : Str) (vs : List Value) : Sem Fin := do match ← nsGet mainNs name with
  | some f => do ret (← PySem.call f vs)
  | none => unsupported "claim.caller:no-such-global"

/-- a walk of the call, run to its end -/
theorem runs_of {prog : Program} {w : World} {s : Shared} {t : Sem Fin} {E : Value → Shared → Prop} (asleep : s.asleep) (bare : ∀ v s', E v s' → AllBare s'.gens) (walk : Wc prog w callerA t (fun fin s' => ∃ v, fin = .done (.ret v) ∧ E v s') s) :
    ∃ n v sE s', schedN (denote table) prog w n (.single s ⟨t, .builtin "claim.caller" {}, default, []⟩) = .halted (.done (.ret v)) s' ∧ E v sE ∧ s'.heap = sE.heap ∧ s'.os = sE.os ∧ s'.heap.life = s.heap.life := by
  have tidy : Sem.wp (model prog w) ⟨.builtin "claim.caller" {}, none, none, [], none⟩ t
      (Sem.finPost (model prog w) ⟨.builtin "claim.caller" {}, none, none, [], none⟩ (fun res s' => (∃ v, res = .ok (.ret v) ∧ E v s') ∧ leftWithCleanup s'.gens = false)) (fun e _ s' => (∃ v, Except.error e = Except.ok (Flow.ret v) ∧ E v s') ∧ leftWithCleanup s'.gens = false) default s := by
    have w0 := walk ⟨.builtin "claim.caller" {}, none, none, [], none⟩ default caller_in ⟨rfl, fun x hx => nomatch hx⟩
    refine Sem.wp_mono _ _ t ?_ (fun _ _ _ no => no.elim) default s w0
    rintro _ p' s' ⟨v, rfl, good⟩
    exact ⟨⟨v, rfl, good⟩, leftWithCleanup_false_of_bare (bare v s' good)⟩
  obtain ⟨n, res, sE, s', sched, run, same, v, rfl, good⟩ := wp_halts_full (M := model prog w) (R := fun res s' => ∃ v, res = .ok (.ret v) ∧ E v s') asleep tidy
  have ⟨eh, _, _, eo, _⟩ := Shared.forget_eq same
  exact ⟨n, v, sE, s', sched, good, eh, eo, runN_life _ _ _ run⟩

theorem calls_of {r : RowW} {q : Program} {loose : List Str} {XP : (Str → Option Value) → Heap → Prop} {w : World} {s : Shared} {mg mb : Str → Option Value} {free : Addr → Prop} {gens : Prop} {kept : Heap → Prop} {tree : List Value → Sem Fin}
    (G : Ground q loose r.records XP w s mg mb s.heap) (asleep : s.asleep) (none_yet : s.gens = #[]) (plain : frees r = true) (whole : r.within.isEmpty = true)
    (keep : ∀ s₁ s' : Shared, (∀ b o, s.heap.get? b = some o → s₁.heap.get? b = some o) → OldK s₁.heap s'.heap → kept s'.heap)
    (walk : ∀ (s₁ : Shared) (args : List WData) (vs : List Value) (as : List Addr), r.claim.pre args = true → WData.layableAll args = true → Laid r.records w s s₁ args vs as → Wc r.prog w callerA (tree vs) (fun fin s' => ∃ v, fin = .done (.ret v) ∧ EndsWell r s s₁ args v s') s₁) :
    r.claim.CallFrom (fun vs => ⟨tree vs, .builtin "claim.caller" {}, default, []⟩) w free gens kept s := by
  have ⟨f1, f2, f3, f4, _⟩ := frees_parts plain
  intro args pre lay ord perm
  have stands := layAllW_isSome (P := w.params) (ord := ord) G.has args r.args s (pre_splitW pre).1
  cases laid : layAllW r.records (classAt s.heap) w.params ord args s with
  | none => rw [laid] at stands; cases stands
  | some out =>
    obtain ⟨vs, s₁⟩ := out
    have K := layAllW_keeps _ _ _ laid
    have ⟨eg, _, eo, el⟩ := layAllW_rest _ _ _ laid
    have ⟨as, rd, inn, old⟩ := reads_layAllW perm _ _ _ laid lay s₁.heap (fun _ _ e => e)
    have L : Laid r.records w s s₁ args vs as := { laid := ⟨ord, perm, laid⟩, reads := rd, within := inn, old := old, keeps := K, gens := by rw [show s₁.gens = s.gens from eg, none_yet], os := eo }
    obtain ⟨n, v, sE, s', sched, good, eh, eos, life⟩ := runs_of (Shared.asleep_of_life el asleep) (fun v s' g => g.2.2.2) (walk s₁ args vs as pre lay L)
    have all := GoodWG.laid (c := r.claim) f1 (List.isEmpty_iff.mp whole) (ident_freeW f2 f3 f4) L good
    have ends := all.1.congr eh
    refine ⟨vs, s₁, laid, n, _, s', sched, .inl ?_, fun _ i x hx => ?_, ?_, ?_, Shared.rest_eq (eos.trans all.2.1)⟩
    · rcases ends with ⟨v', h, a, b, c, d, e⟩ | ⟨_, _, _, h, _⟩
      · cases h
        exact ⟨v, rfl, a, b, c, fun x o hx _ => d x o hx, e⟩
      · cases h
    · rw [none_yet] at hx; simp at hx
    · rw [eh]; exact keep s₁ sE K good.2.1
    · rw [life, show s₁.heap.life = s.heap.life from el]
end Mine
namespace MineHd
open Mine PySem PySem.W PySem.Calls PyProof.Rows
/-- the head that «open_top» finds under this name here -/
theorem PySem.W.holds_open {r : OpenRow} {q : Program} {loose : List Str} {Xt : Shared → Bool} {XP : (Str → Option Value) → Heap → Prop} {α : Type} {Yf : Shared → α} {Ya : World → α} {YP : World → Heap → Prop} {d : DefRec} {kwd : List (Str × Expr)} {N : Nat}
    (left : LeftO r.prog q loose Xt Yf Ya N) (y1 : ∀ w s, Yf s = Ya w → YP w s.heap) (y2 : ∀ w h h', YP w h → (∀ b o, h.get? b = some o → h'.get? b = some o) → YP w h')
    (x1 : ∀ s, Xt s = true → XP (s.heap.nsMap mainGlobals) s.heap) (x2 : ∀ mg h h', XP mg h → (∀ b o, h.get? b = some o → h'.get? b = some o) → XP mg h')
    (isDef : defOf q r.name = some (d, kwd)) (asWritten : r.prog.theDef r.name = some (d.params, d.body, d.scope)) (kws : kwWritten? d.params.kwonlyargs d.params.kw_defaults = some kwd) (recs : ∀ s, Xt s = true → RecFacts r.records s.heap) (wr : (!r.writes || r.records.isEmpty) = true)
    (said : r.wellSaid = true) (ok : (chainsOk q && opensWell r.prog && (frees r.toRowW && r.within.isEmpty)) = true) (bare : r.prog.bare) (prom : r.toRowW.promised)
    (walk : WalkC q loose XP YP r.toRowW d.name) : r.Holds := by
  simp only [Bool.and_eq_true] at ok
  obtain ⟨⟨chains, opens⟩, plain, whole⟩ := ok
  have B := left.behind (XP := fun mg h => XP mg h ∧ RecFacts r.records h) (fun s e => ⟨x1 s e, recs s e⟩) chains
  refine ⟨said, prom, ⟨bare, opens, ?_⟩, prom.witness, fun w => ⟨(B w).1, fun s ran => ?_⟩⟩
  · show r.makers.map _ = []
    rw [(frees_parts plain).2.2.2.2]
    rfl
  obtain ⟨sF, fence, noGen, sT, top, asleep, gens, isNs, GR, y⟩ := (B w).2 s ran
  have R := GR.X.2
  have G0 : Ground q loose [] XP w sT (sT.heap.nsMap mainGlobals) (sT.heap.nsMap builtinsNs) sT.heap := { GR with X := GR.X.1 }
  have G := R.ground G0
  have noG : sT.gens = #[] := Array.eq_empty_of_size_eq_zero (by simpa using gens)
  refine ⟨sF, fence, noGen, sT, top, fun n hn => ?_, R.1, R.2.1, ?_⟩
  · have e : n = r.name := by split at hn <;> simp_all
    subst e
    exact pinned_of_view isNs G0 isDef asWritten kws
  · refine calls_of (r := r.toRowW) (tree := callTree r.name) G asleep noG plain whole (fun s₁ s' K O wr' => ⟨namesKept_of top isNs _ K O.old, noTable wr wr'⟩) fun s₁ args vs as pre lay L => ?_
    have G1 := G.keeps x2 L.keeps
    have ⟨f, _, _, _, _, _, _, at1, _⟩ := G1.fn isDef
    have tree := walk w sT s₁ _ _ ⟨G1, y2 _ _ _ (y1 w sT y) L.keeps, fun none_in => (alone_of none_in top.2.2.2.2.1 G0.T.nolimit).keeps L.keeps, L.gens⟩ f (defOf_name isDef ▸ at1) args vs as pre lay L.reads L.well (L.low G.low)
    refine c_bind (c_of (wpAny_nsGet G1.T.g ?_))
    rw [at1]
    exact c_bind (c_mono tree fun v s' g => c_pure ⟨v, rfl, g⟩)
end MineHd

namespace Mine
open PySem PySem.W PySem.Calls PyProof.Rows

def getFn (K : Frag) (a : Addr) : Option FuncData := match K.lookup a with
  | some o => if o.cls == .type "function" then (match o.data with | .func fd => some fd | _ => none) else none
  | none => none
def fnFacts (K : Frag) (fd : FuncData) := (fd.body, fd.params, fd.scope, fd.globals, fd.closure, fd.defaults, fd.builtins, codeIn K fd.code fd.qualname)
theorem FnK.of {K : Frag} {a : Addr} {st : Stmt} {dV : Value} (h : (getFn K a).map (fnFacts K) = some (.stmts (bodyOf st), paramsOf st, scopeOf st, mainGlobals, [], dV, builtinsNs, true)) : FnK K a st dV := by
  obtain ⟨fd, hf, he⟩ := Option.map_eq_some_iff.mp h
  unfold getFn at hf
  split at hf
  · rename_i o ho
    split at hf
    · rename_i hc
      split at hf
      · rename_i fd' hd
        cases hf
        unfold fnFacts at he
        simp only [Prod.mk.injEq] at he
        obtain ⟨h1, h2, h3, h4, h5, h6, h7, h8⟩ := he
        exact ⟨o, fd, ho, hd, beq_iff_eq.mp hc, h1, h2, h3, h4, h5, h6, h7, h8⟩
      · cases hf
    · cases hf
  · cases hf
def getTup (K : Frag) (T : Addr) : Option (Array Value) := match K.lookup T with
  | some o => (match o.data with | .seq items _ => some items | _ => none)
  | none => none
theorem TupK.of {K : Frag} {T : Addr} {items : Array Value} (h : getTup K T = some items) : TupK K T items := by
  unfold getTup at h
  split at h
  · rename_i o ho
    split at h
    · rename_i it n hd
      cases h
      exact ⟨o, n, ho, hd⟩
    · cases h
  · cases h
def getAttrK (K : Frag) (x C : Addr) (name : Str) : Option Builtin.ObjectAttr.Found := match K.lookup x with
  | some ox => if ox.cls == .ref C && notCls ox then (match ox.dict with | some dx => (match K.lookup dx with | some od => findObj K C (some od) name | none => none) | none => none) else none
  | none => none
theorem AttrK.of {K : Frag} {x C : Addr} {name : Str} {v : Value} (h : getAttrK K x C name = some (.value v)) (hh : handedIn v = true) : AttrK K x C name v := by
  unfold getAttrK at h
  split at h
  · rename_i ox ho
    split at h
    · rename_i hc
      obtain ⟨c1, c2⟩ := Bool.and_eq_true_iff.mp hc
      split at h
      · rename_i dx hdx
        split at h
        · rename_i od hod
          exact ⟨ox, od, dx, ho, beq_iff_eq.mp c1, c2, hdx, hod, h, hh⟩
        · cases h
      · cases h
    · cases h
  · cases h
def foundStr : Option Builtin.ObjectAttr.Found → Option Str
  | some (.value (.str x _)) => some x
  | _ => none
theorem AttrK.ofStr {K : Frag} {x C : Addr} {name y : Str} (h : foundStr (getAttrK K x C name) = some y) : ∃ t, AttrK K x C name (.str y t) := by
  unfold foundStr at h
  split at h
  · rename_i x' t he
    cases h
    exact ⟨t, AttrK.of he rfl⟩
  · cases h
def gsOk : Option (List Value) → Bool
  | some [.str _ _, .ref c, .builtin f, _] => c == 760 && f == "function.__dict__"
  | _ => false
theorem gs_of {K : Frag} (h : gsOk (recIn K 761 "getset_descriptor") = true) : ∃ nm tn v3, recIn K 761 "getset_descriptor" = some [.str nm tn, .ref 760, .builtin "function.__dict__", v3] := by
  revert h
  generalize recIn K 761 "getset_descriptor" = r
  intro h
  unfold gsOk at h
  split at h
  · rename_i nm tn c f v3
    obtain ⟨h1, h2⟩ := Bool.and_eq_true_iff.mp h
    have e1 := beq_iff_eq.mp h1
    have e2 := beq_iff_eq.mp h2
    subst e1 e2
    exact ⟨nm, tn, v3, rfl⟩
  · cases h
def intsIn : List Value → List Int → Bool
  | [], [] => true
  | .int i _ :: vs, n :: ns => i == n && intsIn vs ns
  | _, _ => false
theorem intsIn_are : ∀ {vs : List Value} {ns : List Int}, intsIn vs ns = true → IntsAre vs ns
  | [], [], _ => .nil
  | .int i t :: vs, n :: ns, h => by
    obtain ⟨h1, h2⟩ := Bool.and_eq_true_iff.mp h
    have e := beq_iff_eq.mp h1
    subst e
    exact .cons i t (intsIn_are h2)
def restOk (K : Frag) : Bool := match K.lookup 947 with
  | some o => o.cls == .type "tuple" && (match o.data with | .seq items _ => intsIn items.toList restL | _ => false)
  | none => false
theorem RestK.of {K : Frag} (h : restOk K = true) : RestK K := by
  unfold restOk at h
  split at h
  · rename_i o ho
    obtain ⟨h1, h2⟩ := Bool.and_eq_true_iff.mp h
    split at h2
    · rename_i items n hd
      exact ⟨o, n, items, ho, beq_iff_eq.mp h1, hd, intsIn_are h2⟩
    · cases h2
  · cases h
def gOf (K : Frag) (x : Str) : Option (Option Value) := match K.lookup mainGlobals with
  | some o => (match o.data with | .dict es _ => some (nsFind es x) | _ => none)
  | none => none
theorem g_of {K : Frag} {h : Heap} {mg : Str → Option Value} (X : K.In h) (hn : h.Ns mainGlobals mg) {x : Str} {v : Option Value} (e : gOf K x = some v) : mg x = v := by
  unfold gOf at e
  split at e
  · rename_i o ho
    split at e
    · rename_i es ep hd
      cases e
      obtain ⟨o', es', ep', ho', hd', _, hf⟩ := hn
      have := X _ _ ho
      rw [this] at ho'
      cases ho'
      rw [hd] at hd'
      cases hd'
      exact (hf x).symm
    · cases e
  · cases e

section
variable {prog : Program} {w : World} {σ s : Shared} {K : Frag} {mg : Str → Option Value}
theorem law_call (B : Base σ mg) (X : K.In σ.heap) (NN : NL K) (FL : FnK K 962 (top 32) .none) (GG : GL mg) (hAl : Alone σ) {a : Addr} {ns : List Int} {Q : Value → Shared → Prop} (O : OldL σ a ns) (P : Plain (heightsOf ns)) (h : St σ (GS FG []) [] s)
    (k : ∀ s', St σ (GS FG []) [] s' → Q (.bool true) s') : CallC prog w callerA σ 962 [.ref a] Q s := by
  obtain ⟨nm, ql, kV, doc, pm, an, cdv, ct, Fa⟩ := FL.fn X
  refine C_callC [("script", .ref a)] [] (fun n => [("left", n + 1), ("script", n)]) (fun x => ([("script", Value.ref a)] : List (Str × Value)).lookup x) Fa B.lim (by decide) h (fun Lf s h => ?_)
  have h : St σ (GS FG []) [(Lf, fr []), (Lf + 1, cel (some (.ref a))), (Lf + 1 + 1, cel none)] s := St.re (L := [(Lf, fr []), (Lf + 1 + 1, cel none), (Lf + 1, cel (some (.ref a)))]) h
  exact law_walk (A := callerA.deeper (callEnvC (fnOf nm ql (paramsOf (top 32)) lawB lawScope .none kV doc pm an cdv ct) Lf 962)) (q := ql ++ ".<locals>.") (fa := some 962) (cd := cdv) (fm := some Lf) (Q := fun f s'' => Q (retV f) s'') B X NN GG hAl rfl (by show callerA.depth + 1 ≤ 830; decide) (by show (callerA.units + 3) + 64 < cLine; decide) O P h k
theorem st_start {o : Obj} (hg : s.gens = #[]) (hm : s.heap.get? mainGlobals = some o) : St s (GS FG []) [] s :=
  ⟨by rw [hg]; exact ⟨fun j x hj => by simp at hj, fun j hj => (nomatch hj)⟩, rfl, ⟨rfl, o, hm⟩, fun _ _ e => e, fun p hp => (nomatch hp), List.nodup_nil, fun p hp => (nomatch hp)⟩
theorem bare_end (h : St σ (GS FG []) [] s) : AllBare s.gens := by
  intro y hy
  obtain ⟨i, hi, rfl⟩ := Array.getElem_of_mem hy
  have := h.gens.1 i s.gens[i] (Array.getElem?_eq_getElem hi)
  have this : s.gens[i] = .finished := this
  rw [this]; rfl
end
end Mine

namespace Mine
open PySem PySem.W PySem.Calls PyProof.Rows

/-- from the walk to what the claim asks -/
theorem good_of {c : ClaimW} {cl : Str → Option Addr} {mean : ExcName → Option Value} {args : List WData} {s₁ s' : Shared} (hr : ∀ cls, c.raises args cls = false) (hp : c.post args (.bool true) args = true) (h : St s₁ (GS FG []) [] s') : GoodWG c cl mean args s₁ (.ok (.ret (.bool true))) s' :=
  ⟨.inl ⟨_, _, _, rfl, hr, .bool true, hp, fun _ => ⟨List.nodup_nil, fun a ha => (nomatch ha)⟩⟩, .of_keep h.keep, h.os.1, bare_end h⟩

theorem finish {K : Frag} {prog : Program} {w : World} {s₁ : Shared} {mg mb : Str → Option Value} (X : K.In s₁.heap) (NN : NL K) (FL : FnK K 962 (top 32) .none) (GG : GL mg) (hl : mg "law" = some (.ref 962)) (hn : s₁.heap.Ns mainGlobals mg) (hb : s₁.heap.Ns builtinsNs mb) (hbb : ∀ x : Str, x ≠ "__name__" → mb x = bootBuiltins x) (hlim : s₁.heap.NoLimit)
    (hAl : Alone s₁) (hg : s₁.gens = #[]) {a f : Addr} {vs : List Value} {ns : List Int} (hf : mg "law" = some (.ref f)) (hL : s₁.heap.IsList a vs.toArray) (hI : IntsAre vs ns) (hz : ns.length ≤ 63) (P : Plain (heightsOf ns)) {Q : Value → Shared → Prop} (k : ∀ s', St s₁ (GS FG []) [] s' → Q (.bool true) s') :
    Wc prog w callerA (call (.ref f) [.ref a]) Q s₁ := by
  rw [hl] at hf
  cases hf
  obtain ⟨o, _, _, ho, _⟩ := id hn
  exact CallC.run (law_call ⟨hn, ⟨mb, hb, hbb⟩, hlim⟩ X NN FL GG hAl ⟨⟨vs, hL, hI⟩, by omega⟩ P (st_start hg ho) k)

end Mine

/-! Empty definitions whose names are those of the twins that the kit would lay for the head's trees and heaps. A twin's proof grows with the square of the number
of objects (567 MB in all); where its name is taken the kit goes on without it. Nothing below leans on these. -/
namespace MineHd.holds
def tw18115736021357577600 : Unit := ()
def tw2289393042658815489 : Unit := ()
def tw14434185019133052031 : Unit := ()
def tw13214990641325768434 : Unit := ()
def tw15092215991620108002 : Unit := ()
def tw3302100608335178308 : Unit := ()
def tw11145603750530678364 : Unit := ()
def tw4669341364788322397 : Unit := ()
def tw12256845288665014337 : Unit := ()
def tw5527671295621078241 : Unit := ()
def tw11538153760856664397 : Unit := ()
def tw5316964772411203656 : Unit := ()
def tw10205136939768031222 : Unit := ()
def tw6511709998415139622 : Unit := ()
def tw6348721318249921550 : Unit := ()
def tw16889155317782719722 : Unit := ()
def tw491599126612865308 : Unit := ()
def tw12321779476623633057 : Unit := ()
def tw1478606716839069537 : Unit := ()
def tw2531434418647342708 : Unit := ()
def tw937492985774320575 : Unit := ()
def tw15472864917502176475 : Unit := ()
def tw15661512348845289443 : Unit := ()
def tw10529331505110134996 : Unit := ()
def tw6506068362983244374 : Unit := ()
def tw4018509138486670512 : Unit := ()
def tw709408989477127995 : Unit := ()
def tw8888253456667441501 : Unit := ()
def tw17293294907369117438 : Unit := ()
def tw8111972496899965737 : Unit := ()
def tw11591944147175032893 : Unit := ()
def tw6797178036683962320 : Unit := ()
def tw17818671940300891922 : Unit := ()
def tw5710190782049953036 : Unit := ()
def tw988520333418453153 : Unit := ()
end MineHd.holds
section
open PySem PySem.W PySem.Calls PyProof.Rows Mine
namespace MineHd
set_option Elab.async true in
set_option maxHeartbeats 8000000 in
theorem holds : PySem.Challenge.rw_ah5018_01.Holds := by
  w_on; o_law; k_head; (case hw => w_witness2)
  intro w s₀ s₁ mg mb ⟨G, Y, hal, hg⟩ fa hmg args vals as hpre hlay hrd hwl hlo
  have X := km_in_of Y
  clear Y
  have hAl := hal (by decide +kernel)
  have hn := G.T.g
  wrow_args hpre hlay hrd hwl hlo
  rename_i ns _ _ _ _ _ _ _ a vs _ hL _ _ _ hI _ hlen _
  refine finish X { nf := { di := { getattribute := by kernel_rfl, getattr := by kernel_rfl, setattr := by kernel_rfl, over := by kernel_rfl, dict := by kernel_rfl, makes := by kernel_rfl }, diInit := by kernel_rfl, fInit := .of (by kernel_rfl), tInit := .of (by kernel_rfl), gGraph := by kernel_rfl, gNode := by kernel_rfl, gAdj := by kernel_rfl, gPred := by kernel_rfl, gSucc := by kernel_rfl, sGraph := by kernel_rfl, sNode := by kernel_rfl, sAdj := by kernel_rfl, sPred := by kernel_rfl, sSucc := by kernel_rfl, fac1 := by kernel_rfl, fac2 := by kernel_rfl, fac3 := by kernel_rfl, fac4 := by kernel_rfl, fac5 := by kernel_rfl, fac6 := by kernel_rfl, mAddN := by kernel_rfl, fAddN := .of (by kernel_rfl), mAddE := by kernel_rfl, fAddE := .of (by kernel_rfl), mNei := by kernel_rfl, fNei := .of (by kernel_rfl), mMul := by kernel_rfl, fMul := .of (by kernel_rfl), mDir := by kernel_rfl, fDir := .of (by kernel_rfl), mCon := by kernel_rfl, fCon := .of (by kernel_rfl) }, nv := { view := { cls := { getattribute := by kernel_rfl, getattr := by kernel_rfl, setattr := by kernel_rfl, over := by kernel_rfl, dict := by kernel_rfl, makes := by kernel_rfl }, weight := by kernel_rfl, nodes := by kernel_rfl, pred := by kernel_rfl, succ := by kernel_rfl }, sSucc := by kernel_rfl, sPred := by kernel_rfl, sNodes := by kernel_rfl, sWeight := by kernel_rfl, init := by kernel_rfl, fInit := .of (by kernel_rfl), tInit := .of (by kernel_rfl), call := by kernel_rfl, fCall := .of (by kernel_rfl), tCall := .of (by kernel_rfl), iter := by kernel_rfl, fIter := .of (by kernel_rfl), modDi := by kernel_rfl, inDeg := by kernel_rfl, inDegF := by kernel_rfl, inDegT := by kernel_rfl, fGet := .of (by kernel_rfl), tGet := .of (by kernel_rfl), fDeg := .of (by kernel_rfl), cpGA := by kernel_rfl, cpGT := by kernel_rfl, cpFunc := by kernel_rfl, aName := AttrK.ofStr (by kernel_rfl), aFunc := .of (by kernel_rfl) rfl, dictA := by kernel_rfl, gs := gs_of (by kernel_rfl), mro := by kernel_rfl, st := by kernel_rfl, cm := by kernel_rfl, keep := by kernel_rfl }, ng := { con := by kernel_rfl, vcall := by kernel_rfl, vcallF := by kernel_rfl, viter := by kernel_rfl, fTG := .of (by kernel_rfl) }, keep := by kernel_rfl, rest := .of (by kernel_rfl), fIns := .of (by kernel_rfl), fSha := .of (by kernel_rfl) } (.of (by kernel_rfl)) { gf := { len := g_of X hn (by kernel_rfl), range := g_of X hn (by kernel_rfl), enumerate := g_of X hn (by kernel_rfl), iter := g_of X hn (by kernel_rfl), hasattr := g_of X hn (by kernel_rfl), sorted := g_of X hn (by kernel_rfl), list := g_of X hn (by kernel_rfl), zip := g_of X hn (by kernel_rfl), dict := g_of X hn (by kernel_rfl), inDeg := g_of X hn (by kernel_rfl), notFound := g_of X hn (by kernel_rfl), di := g_of X hn (by kernel_rfl), topo := g_of X hn (by kernel_rfl) }, rest := g_of X hn (by kernel_rfl), inserted := g_of X hn (by kernel_rfl), shadows := g_of X hn (by kernel_rfl) } (g_of X hn (by kernel_rfl)) hn G.T.b G.T.builtins G.T.nolimit hAl hg hmg hL hI (by omega) (Mine.PL ns) (fun s' h => good_of ?_ ?_ h)
  · intro cls; rfl
  · first | kernel_rfl | (with_unfolding_all rfl)
end MineHd
end

theorem PySem.Challenge.cw_ah5018_01_holds : PySem.Challenge.rw_ah5018_01.Holds := by
  exact MineHd.holds
