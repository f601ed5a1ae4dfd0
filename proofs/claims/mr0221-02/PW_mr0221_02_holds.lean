import PyProof.Rows.All
import Wide.All
import OpenK.AllK
import Wide.FinOn
import PySem.Challenge.RW_mr0221_02
set_option Elab.async false

/-! LBase -/
namespace Mine
open PySem PySem.W PyProof.Rows

noncomputable abbrev ASet := Addr → Prop

/-- a kind of value; S: the addresses that it may lean upon -/
structure VP where
  P : ASet → Heap → Value → Prop
  mono : ∀ {S S' : ASet} {h : Heap} {v : Value}, (∀ a, S a → S' a) → P S h v → P S' h v
  keep : ∀ {S : ASet} {h h' : Heap} {v : Value}, (∀ a o, S a → h.get? a = some o → h'.get? a = some o) → P S h v → P S h' v

noncomputable def All2 (S : ASet) (h : Heap) : List Value → List VP → Prop
  | [], [] => True
  | v :: vs, p :: ps => p.P S h v ∧ All2 S h vs ps
  | _, _ => False

theorem All2.mono {S S' : ASet} {h : Heap} (hs : ∀ a, S a → S' a) : ∀ {vs : List Value} {ps : List VP}, All2 S h vs ps → All2 S' h vs ps
  | [], [], _ => trivial
  | _ :: _, p :: _, ⟨a, b⟩ => ⟨p.mono hs a, All2.mono hs b⟩
  | [], _ :: _, x => x
  | _ :: _, [], x => x
theorem All2.keep {S : ASet} {h h' : Heap} (hk : ∀ a o, S a → h.get? a = some o → h'.get? a = some o) : ∀ {vs : List Value} {ps : List VP}, All2 S h vs ps → All2 S h' vs ps
  | [], [], _ => trivial
  | _ :: _, p :: _, ⟨a, b⟩ => ⟨p.keep hk a, All2.keep hk b⟩
  | [], _ :: _, x => x
  | _ :: _, [], x => x
theorem All2.length {S : ASet} {h : Heap} : ∀ {vs : List Value} {ps : List VP}, All2 S h vs ps → vs.length = ps.length
  | [], [], _ => rfl
  | _ :: _, _ :: _, ⟨_, b⟩ => by rw [List.length_cons, List.length_cons, b.length]
  | [], _ :: _, x => x.elim
  | _ :: _, [], x => x.elim
theorem All2.append {S : ASet} {h : Heap} : ∀ {vs ws : List Value} {ps qs : List VP}, All2 S h vs ps → All2 S h ws qs → All2 S h (vs ++ ws) (ps ++ qs)
  | [], _, [], _, _, y => y
  | _ :: _, _, _ :: _, _, ⟨a, b⟩, y => ⟨a, b.append y⟩
  | [], _, _ :: _, _, x, _ => x.elim
  | _ :: _, _, [], _, x, _ => x.elim
theorem All2.get {S : ASet} {h : Heap} : ∀ {vs : List Value} {ps : List VP}, All2 S h vs ps → ∀ {i : Nat} {p : VP}, ps[i]? = some p → ∃ v, vs[i]? = some v ∧ p.P S h v
  | [], [], _, i, p, e => by simp at e
  | v :: vs, q :: ps, ⟨a, b⟩, i, p, e => by
    cases i with
    | zero => simp at e; subst e; exact ⟨v, by simp, a⟩
    | succ i => simp at e; obtain ⟨w, h1, h2⟩ := b.get e; exact ⟨w, by simpa using h1, h2⟩
  | [], _ :: _, x, _, _, _ => x.elim
  | _ :: _, [], x, _, _, _ => x.elim
theorem All2.drop {S : ASet} {h : Heap} : ∀ (n : Nat) {vs : List Value} {ps : List VP}, All2 S h vs ps → All2 S h (vs.drop n) (ps.drop n)
  | 0, _, _, x => x
  | n + 1, [], [], _ => trivial
  | n + 1, _ :: _, _ :: _, ⟨_, b⟩ => b.drop n
  | _, [], _ :: _, x => x.elim
  | _, _ :: _, [], x => x.elim
theorem All2.take {S : ASet} {h : Heap} : ∀ (n : Nat) {vs : List Value} {ps : List VP}, All2 S h vs ps → All2 S h (vs.take n) (ps.take n)
  | 0, _, _, _ => trivial
  | n + 1, [], [], _ => trivial
  | n + 1, _ :: _, _ :: _, ⟨a, b⟩ => ⟨a, b.take n⟩
  | _, [], _ :: _, x => x.elim
  | _, _ :: _, [], x => x.elim
theorem All2.set {S : ASet} {h : Heap} : ∀ (i : Nat) {vs : List Value} {ps : List VP} {v : Value} {p : VP}, All2 S h vs ps → p.P S h v → All2 S h (vs.set i v) (ps.set i p)
  | _, [], [], _, _, _, _ => trivial
  | 0, _ :: _, _ :: _, _, _, ⟨_, b⟩, x => ⟨x, b⟩
  | n + 1, _ :: _, _ :: _, _, _, ⟨a, b⟩, x => ⟨a, b.set n x⟩
  | _, [], _ :: _, _, _, x, _ => x.elim
  | _, _ :: _, [], _, _, x, _ => x.elim

/-- a list as it is made -/
noncomputable def PL (h : Heap) (a : Addr) (its : Array Value) : Prop := ∃ o n, h.get? a = some o ∧ o.cls = .type "list" ∧ o.dict = none ∧ o.data = .seq its n ∧ o.slots = #[]
theorem PL.isList {h : Heap} {a : Addr} {its : Array Value} (x : PL h a its) : h.IsList a its := let ⟨o, n, e, c, _, d, _⟩ := x; ⟨o, e, c, n, d⟩
theorem PL.plainL {h : Heap} {a : Addr} {its : Array Value} (x : PL h a its) : PlainL h a its := let ⟨o, n, e, c, q, d, _⟩ := x; ⟨o, n, e, c, q, d⟩
theorem PL.keeps {h h' : Heap} {a : Addr} {its : Array Value} (x : PL h a its) (hk : ∀ b o, h.get? b = some o → h'.get? b = some o) : PL h' a its := let ⟨o, n, e, r⟩ := x; ⟨o, n, hk a o e, r⟩
theorem PL.exact {h : Heap} {a : Addr} {its : Array Value} (x : PL h a its) : ∃ n, h.get? a = some { cls := .type "list", dict := none, data := .seq its n, slots := #[] } := by
  obtain ⟨⟨c, d, dt, sl⟩, n, e, h1, h2, h3, h4⟩ := x
  simp only at h1 h2 h3 h4
  subst h1 h2 h3 h4
  exact ⟨n, e⟩
theorem PL.of {h : Heap} {a : Addr} {its : Array Value} {n : Nat} (e : h.get? a = some { cls := .type "list", dict := none, data := .seq its n, slots := #[] }) : PL h a its := ⟨_, n, e, rfl, rfl, rfl, rfl⟩
theorem list_append_PL {prog : Program} {w : World} {A : Around} {E : Value → Shared → Prop} {s : Shared} {l : Addr} {its : Array Value} {x : Value} {Q : Value → Shared → Prop}
    (hl : PL s.heap l its) (hQ : ∀ h', PL h' l (its.push x) → Heap.SameBut l s.heap h' → Q .none { s with heap := h' }) (hsz : its.size ≤ sizeLine) :
    wpAny (model prog w) A (call (.builtin "list.append") [.ref l, x]) Q E s :=
  wpAny_list_append_plain hl.exact (fun h' ⟨_, e⟩ hs => hQ h' (.of e) hs) hsz

/-! the kinds -/
noncomputable def vNone : VP := ⟨fun _ _ v => v = .none, fun _ x => x, fun _ x => x⟩
noncomputable def vBool (b : Bool) : VP := ⟨fun _ _ v => v = .bool b, fun _ x => x, fun _ x => x⟩
noncomputable def vInt (i : Int) : VP := ⟨fun _ _ v => ∃ t, v = .int i t, fun _ x => x, fun _ x => x⟩
noncomputable def vStr (x : Str) : VP := ⟨fun _ _ v => ∃ t, v = .str x t, fun _ x => x, fun _ x => x⟩
/-- this very value -/
noncomputable def vIs (w : Value) : VP := ⟨fun _ _ v => v = w, fun _ x => x, fun _ x => x⟩
noncomputable def vLst (l : List VP) : VP where
  P := fun S h v => ∃ a vs, v = .ref a ∧ S a ∧ PL h a (List.toArray vs) ∧ All2 S h vs l
  mono := fun hs x => by obtain ⟨a, vs, e, ha, hl, x⟩ := x; exact ⟨a, vs, e, hs _ ha, hl, x.mono hs⟩
  keep := fun hk x => by obtain ⟨a, vs, e, ha, ⟨o, n, ho, r⟩, x⟩ := x; exact ⟨a, vs, e, ha, ⟨o, n, hk _ _ ha ho, r⟩, x.keep hk⟩
noncomputable def vTup (l : List VP) : VP where
  P := fun S h v => ∃ a vs, v = .ref a ∧ S a ∧ IsTup h a (List.toArray vs) ∧ All2 S h vs l
  mono := fun hs x => by obtain ⟨a, vs, e, ha, hl, x⟩ := x; exact ⟨a, vs, e, hs _ ha, hl, x.mono hs⟩
  keep := fun hk x => by obtain ⟨a, vs, e, ha, ⟨o, ho, r⟩, x⟩ := x; exact ⟨a, vs, e, ha, ⟨o, hk _ _ ha ho, r⟩, x.keep hk⟩

/-- it leans upon nothing -/
noncomputable def VP.Scalar (p : VP) : Prop := ∀ S S' h h' v, p.P S h v → p.P S' h' v
theorem scalar_int (b : Int) : (vInt b).Scalar := fun _ _ _ _ _ x => x
/-! the run's ground -/
structure TabSpec where
  c : Addr
  P : Addr
  made : List (Pos × Str)

structure Cx where
  prog : Program
  w : World
  base : Heap
  tabs : List TabSpec
  gens : Array GenState
  os : OsState

noncomputable def Cx.isTab (C : Cx) (a : Addr) : Prop := ∃ t ∈ C.tabs, t.P = a
noncomputable abbrev Cx.M (C : Cx) : Model := model C.prog C.w

noncomputable def TabOk (S : ASet) (h : Heap) (t : TabSpec) : Prop :=
  ∃ ps, h.get? t.P = some (tabObj ps) ∧ TriplesOk ps.toList ∧
    ∀ x ∈ t.made, codeAmong x.1 ps.toList = none ∨ ∃ c', codeAmong x.1 ps.toList = some (.ref c') ∧ S c' ∧ h.CodeRec (.ref c') x.2

structure Inv (C : Cx) (S : ASet) (s : Shared) : Prop where
  base : ∀ b o, C.base.get? b = some o → s.heap.get? b = some o ∧ S b
  live : ∀ a, S a → (s.heap.get? a).isSome = true
  tab : ∀ t ∈ C.tabs, TabOk S s.heap t
  notab : ∀ a, S a → ¬ C.isTab a
  gens : s.gens = C.gens
  os : s.os = C.os

/-- from s to s': what hb held, and what S holds, stands as it stood; S has grown by new addresses -/
structure Step (C : Cx) (hb : ASet) (S : ASet) (s : Shared) (S' : ASet) (s' : Shared) : Prop where
  inv : Inv C S' s'
  sub : ∀ a, S a → S' a
  new : ∀ a, S' a → S a ∨ ¬ hb a
  kept : ∀ b o, ¬ C.isTab b → (hb b ∨ S b) → s.heap.get? b = some o → s'.heap.get? b = some o

noncomputable abbrev liveIn (h : Heap) : ASet := fun b => (h.get? b).isSome = true
theorem live_of {h : Heap} {a : Addr} {o : Obj} (e : h.get? a = some o) : liveIn h a := by show (h.get? a).isSome = true; rw [e]; rfl
theorem live_get {h : Heap} {a : Addr} (e : liveIn h a) : ∃ o, h.get? a = some o := Option.isSome_iff_exists.mp e
theorem not_live {h : Heap} {a : Addr} (e : h.get? a = none) : ¬ liveIn h a := fun q => by obtain ⟨o, q⟩ := live_get q; rw [e] at q; cases q
noncomputable abbrev Grow (C : Cx) (S : ASet) (s : Shared) (S' : ASet) (s' : Shared) : Prop := Step C (liveIn s.heap) S s S' s'

theorem Step.alive {C hb S s S' s'} (x : Step C hb S s S' s') {b : Addr} (h : hb b ∨ S b) (l : liveIn s.heap b) : liveIn s'.heap b := by
  by_cases q : C.isTab b
  · obtain ⟨t, ht, rfl⟩ := q
    obtain ⟨ps, h1, _⟩ := x.inv.tab t ht
    exact live_of h1
  · obtain ⟨o, e⟩ := live_get l
    exact live_of (x.kept b o q h e)
theorem Grow.alive {C S s S' s'} (x : Grow C S s S' s') {b : Addr} (l : liveIn s.heap b) : liveIn s'.heap b := Step.alive x (.inl l) l
theorem Step.keeps {C hb S s S' s'} (x : Step C hb S s S' s') (I : Inv C S s) : ∀ a o, S a → s.heap.get? a = some o → s'.heap.get? a = some o :=
  fun a o ha e => x.kept a o (I.notab a ha) (.inr ha) e

theorem Grow.all {C S s S' s'} (x : Grow C S s S' s') : ∀ b o, ¬ C.isTab b → s.heap.get? b = some o → s'.heap.get? b = some o :=
  fun b o hb e => x.kept b o hb (.inl (live_of e)) e

theorem Step.refl {C hb S s} (I : Inv C S s) : Step C hb S s S s := ⟨I, fun _ h => h, fun _ h => .inl h, fun _ _ _ _ e => e⟩

theorem none_of_not {h : Heap} {a : Addr} (x : ¬ (h.get? a).isSome = true) : h.get? a = none := by
  cases e : h.get? a with
  | none => rfl
  | some o => rw [e] at x; exact absurd rfl x

theorem Step.trans {C hb S s S₁ s₁ S₂ s₂} (x : Step C hb S s S₁ s₁) (y : Step C hb S₁ s₁ S₂ s₂) : Step C hb S s S₂ s₂ where
  inv := y.inv
  sub := fun a h => y.sub a (x.sub a h)
  new := fun a h => (y.new a h).elim (x.new a) .inr
  kept := fun b o hb' h e => y.kept b o hb' (h.imp id (x.sub b)) (x.kept b o hb' h e)

/-- a step that keeps more is a step that keeps less -/
theorem Step.weaken {C hb hb' S s S' s'} (x : Step C hb S s S' s') (a : ∀ b, hb' b → hb b) : Step C hb' S s S' s' where
  inv := x.inv
  sub := x.sub
  new := fun b h => (x.new b h).imp id fun e q => e (a b q)
  kept := fun b o n h e => x.kept b o n (h.imp (a b) id) e

theorem Grow.trans {C S s S₁ s₁ S₂ s₂} (x : Grow C S s S₁ s₁) (y : Grow C S₁ s₁ S₂ s₂) : Grow C S s S₂ s₂ :=
  Step.trans x (y.weaken fun _ h => x.alive h)

/-- how deep the call stands: n frames may still be laid -/
structure AOk (n : Nat) (A : Around) : Prop where
  handled : A.handled = none
  depth : A.depth + n < recursionLimit
  units : A.units + 20 * n + 100 < cLine

theorem AOk.le {n m A} (x : AOk n A) (h : m ≤ n) : AOk m A := ⟨x.handled, by have := x.depth; lia, by have := x.units; lia⟩
theorem AOk.deeper {n A} (x : AOk (n + 1) A) (env : Env) : AOk n (A.deeper env) :=
  ⟨x.handled, by have := x.depth; show A.depth + 1 + n < _; lia, by have := x.units; show A.units + 3 + 20 * n + 100 < _; lia⟩

/-! frames -/
inductive Slot where
  | un
  | val (p : VP)
  | own (l : List VP)

noncomputable def Holds (env : Env) (h : Heap) (x : Str) (v : Value) : Prop :=
  (env.kindOf x = some .local ∧ ∃ m, h.Ns env.locals m ∧ m x = some v) ∨
  ((env.kindOf x = some .cell ∨ env.kindOf x = some .free) ∧ ∃ c, env.cells.lookup x = some c ∧ h.IsCell c (some v))

structure Shape where
  scope : Scope
  names : List Str
  /-- those whose cells are the frame's own -/
  cells : List Str

noncomputable def SlotOk (hb : ASet) (env : Env) (a : Addr) (S : ASet) (h : Heap) (x : Str) : Slot → Prop
  | .un => True
  | .val p => ∃ v, Holds env h x v ∧ p.P S h v
  | .own l => Holds env h x (.ref a) ∧ ¬ S a ∧ ¬ hb a ∧ ∃ vs, PL h a (List.toArray vs) ∧ All2 S h vs l

noncomputable def SlotsAt (f : Nat → Addr) (hb : ASet) (env : Env) (names : List Str) (S : ASet) (h : Heap) (vals : List Slot) : Prop :=
  names.length = vals.length ∧ (∀ i x t, names[i]? = some x → vals[i]? = some t → SlotOk hb env (f i) S h x t) ∧
    ∀ i j l l', vals[i]? = some (.own l) → vals[j]? = some (.own l') → f i = f j → i = j
noncomputable abbrev Slots (hb : ASet) (env : Env) (names : List Str) (S : ASet) (h : Heap) (vals : List Slot) : Prop := ∃ f, SlotsAt f hb env names S h vals

structure FrameOk (C : Cx) (fr : Shape) (n : Nat) (hb : ASet) (env : Env) (A : Around) (S : ASet) (s : Shared) (vals : List Slot) : Prop where
  inv : Inv C S s
  scope : env.scope = fr.scope
  kind : env.scope.kind = .function
  globals : env.globals = mainGlobals
  builtins : env.builtins = builtinsNs
  around : AOk n A
  alive : ∀ b, hb b → (s.heap.get? b).isSome = true
  ns : ∃ m, s.heap.Ns env.locals m
  locNot : ¬ S env.locals ∧ ¬ hb env.locals
  cells : ∀ x c, env.cells.lookup x = some c → ∃ v, s.heap.IsCell c v
  apart : ∀ x ∈ fr.cells, ∀ y c, env.cells.lookup x = some c → env.cells.lookup y = some c → y = x
  ownc : ∀ x ∈ fr.cells, ∃ c, env.cells.lookup x = some c ∧ ¬ hb c ∧ ¬ S c
  slots : Slots hb env fr.names S s.heap vals

theorem Inv.notab_of {C : Cx} {S : ASet} {s : Shared} {a : Addr} {o : Obj} (I : Inv C S s) (e : s.heap.get? a = some o) (hd : ∀ vs, o.data ≠ .fields vs) : ¬ C.isTab a := by
  rintro ⟨t, ht, rfl⟩
  obtain ⟨ps, h1, _⟩ := I.tab t ht
  rw [h1] at e; cases e
  exact hd _ rfl
theorem Inv.notab_list {C S s a items} (I : Inv C S s) (x : PL s.heap a items) : ¬ C.isTab a := by
  obtain ⟨o, n, e, _, _, hd, _⟩ := x; exact I.notab_of e fun vs q => by rw [hd] at q; cases q
theorem Inv.notab_ns {C S s a m} (I : Inv C S s) (x : s.heap.Ns a m) : ¬ C.isTab a := by
  obtain ⟨o, es, ep, e, hd, _⟩ := x; exact I.notab_of e fun vs q => by rw [hd] at q; cases q
theorem Inv.notab_cell {C S s a v} (I : Inv C S s) (x : s.heap.IsCell a v) : ¬ C.isTab a := by
  obtain ⟨o, e, hd⟩ := x; exact I.notab_of e fun vs q => by rw [hd] at q; cases q

theorem ns_unique {h : Heap} {a : Addr} {m m' : Str → Option Value} (x : h.Ns a m) (y : h.Ns a m') : m = m' := by
  obtain ⟨o, es, ep, e, d, _, f⟩ := x
  obtain ⟨o', es', ep', e', d', _, f'⟩ := y
  rw [e] at e'; cases e'
  rw [d] at d'; cases d'
  funext n; rw [← f n, f' n]

theorem SlotsAt.move {f : Nat → Addr} {hb : ASet} {env : Env} {names : List Str} {S S' : ASet} {h h' : Heap} {vals : List Slot} (x : SlotsAt f hb env names S h vals)
    (hH : ∀ y v, Holds env h y v → Holds env h' y v) (hS : ∀ a, S a → S' a) (hk : ∀ a o, S a → h.get? a = some o → h'.get? a = some o)
    (hown : ∀ a items, ¬ S a → ¬ hb a → PL h a items → PL h' a items ∧ ¬ S' a) : SlotsAt f hb env names S' h' vals := by
  obtain ⟨hl, hs, hd⟩ := x
  refine ⟨hl, fun i y t hy ht => ?_, hd⟩
  have q := hs i y t hy ht
  cases t with
  | un => trivial
  | val p => obtain ⟨v, a, b⟩ := q; exact ⟨v, hH _ _ a, p.mono hS (p.keep hk b)⟩
  | own l =>
    obtain ⟨a, b, c, vs, d, e⟩ := q
    obtain ⟨d', b'⟩ := hown _ _ b c d
    exact ⟨hH _ _ a, b', c, vs, d', (e.keep hk).mono hS⟩

theorem Holds.kept {C : Cx} {env : Env} {S : ASet} {s : Shared} {h' : Heap} {x : Str} {v : Value} (I : Inv C S s)
    (hk : ∀ b o, ¬ C.isTab b → s.heap.get? b = some o → h'.get? b = some o) (y : Holds env s.heap x v) : Holds env h' x v := by
  rcases y with ⟨a, m, n, e⟩ | ⟨a, c, b, d⟩
  · have nt := I.notab_ns n
    obtain ⟨o, es, ep, e1, r⟩ := n
    exact .inl ⟨a, m, ⟨o, es, ep, hk _ _ nt e1, r⟩, e⟩
  · have nt := I.notab_cell d
    obtain ⟨o, e1, r⟩ := d
    exact .inr ⟨a, c, b, ⟨o, hk _ _ nt e1, r⟩⟩

theorem SlotsAt.grow {C f hb env names S s vals S' s'} (I : Inv C S s) (x : SlotsAt f hb env names S s.heap vals) (g : Grow C S s S' s') : SlotsAt f hb env names S' s'.heap vals :=
  x.move (fun y v x => x.kept I g.all) g.sub (fun a o ha e => g.all _ _ (I.notab a ha) e) fun a items nS _ x => by
    have nt := I.notab_list x
    obtain ⟨o, n, e1, r⟩ := x
    exact ⟨⟨o, n, g.all _ _ nt e1, r⟩, fun q => (g.new _ q).elim nS fun e => e (live_of e1)⟩

theorem FrameOk.growNo {C fr n hb env A S s vals S' s' vals'} (F : FrameOk C fr n hb env A S s vals) (g : Grow C S s S' s') (hs : Slots hb env fr.names S' s'.heap vals') : FrameOk C fr n hb env A S' s' vals' where
  inv := g.inv
  scope := F.scope
  kind := F.kind
  globals := F.globals
  builtins := F.builtins
  around := F.around
  alive := fun b h => g.alive (F.alive b h)
  ns := by
    obtain ⟨m, x⟩ := F.ns
    have nt := F.inv.notab_ns x
    obtain ⟨o, es, ep, e1, r⟩ := x
    exact ⟨m, o, es, ep, g.all _ _ nt e1, r⟩
  locNot := ⟨fun q => (g.new _ q).elim F.locNot.1 (fun e => by
    obtain ⟨m, o, es, ep, e1, r⟩ := F.ns
    exact e (live_of e1)), F.locNot.2⟩
  cells := fun x c hc => by
    obtain ⟨v, y⟩ := F.cells x c hc
    have nt := F.inv.notab_cell y
    obtain ⟨o, e1, r⟩ := y
    exact ⟨v, o, g.all _ _ nt e1, r⟩
  apart := F.apart
  ownc := fun x hx => by
    obtain ⟨c, e1, e2, e3⟩ := F.ownc x hx
    obtain ⟨v, o, e, _⟩ := F.cells x c e1
    exact ⟨c, e1, e2, fun q => (g.new _ q).elim e3 fun e' => e' (live_of e)⟩
  slots := hs
theorem FrameOk.grow {C fr n hb env A S s vals S' s'} (F : FrameOk C fr n hb env A S s vals) (g : Grow C S s S' s') : FrameOk C fr n hb env A S' s' vals :=
  F.growNo g (let ⟨f, x⟩ := F.slots; ⟨f, x.grow F.inv g⟩)

/-! judgements -/
noncomputable abbrev F0 : Value → Shared → Prop := fun _ _ => False

/-- the tree gives a value of kind p -/
noncomputable def Gives (C : Cx) (A : Around) (t : Sem Value) (S : ASet) (s : Shared) (p : VP) : Prop :=
  wpAny C.M A t (fun v s' => ∃ S', Grow C S s S' s' ∧ p.P S' s'.heap v) F0 s

noncomputable def Ev (C : Cx) (fr : Shape) (n : Nat) (vals : List Slot) (e : Expr) (p : VP) : Prop :=
  ∀ hb env A S s, FrameOk C fr n hb env A S s vals → Gives C A (eval e env) S s p

/-- a truth value is wanted -/
noncomputable def EvB (C : Cx) (fr : Shape) (n : Nat) (vals : List Slot) (e : Expr) (b : Bool) : Prop :=
  ∀ hb env A S s, FrameOk C fr n hb env A S s vals → wpAny C.M A (isTrue e env (eval e env)) (fun c s' => c = b ∧ ∃ S', Grow C S s S' s') F0 s

inductive Out where
  | next (vals : List Slot)
  | brk (vals : List Slot)
  | cont (vals : List Slot)
  | ret (p : VP)

noncomputable def OutOk (C : Cx) (fr : Shape) (n : Nat) (hb : ASet) (env : Env) (A : Around) (S : ASet) (s : Shared) : Out → Flow → Prop
  | .next vals, .next => FrameOk C fr n hb env A S s vals
  | .brk vals, .brk => FrameOk C fr n hb env A S s vals
  | .cont vals, .cont => FrameOk C fr n hb env A S s vals
  | .ret p, .ret v => p.P S s.heap v
  | _, _ => False

noncomputable def Ex1 (C : Cx) (fr : Shape) (n : Nat) (vals : List Slot) (st : Stmt) (o : Out) : Prop :=
  ∀ hb env A S s, FrameOk C fr n hb env A S s vals → wpAny C.M A (exec st env) (fun f s' => ∃ S', Step C hb S s S' s' ∧ OutOk C fr n hb env A S' s' o f) F0 s

noncomputable def Ex (C : Cx) (fr : Shape) (n : Nat) (vals : List Slot) (ss : List Stmt) (o : Out) : Prop :=
  ∀ hb env A S s, FrameOk C fr n hb env A S s vals → wpAny C.M A (execs ss env) (fun f s' => ∃ S', Step C hb S s S' s' ∧ OutOk C fr n hb env A S' s' o f) F0 s

section
variable {C : Cx} {fr : Shape} {n : Nat} {vals vals' : List Slot}

theorem FrameOk.stepGrow {hb env A S s S' s'} (F : FrameOk C fr n hb env A S s vals) (g : Grow C S s S' s') : Step C hb S s S' s' := g.weaken fun b h => F.alive b h

theorem Ex.nil {vals : List Slot} : Ex C fr n vals [] (.next vals) := fun _ _ _ S _ F => wpAny_execs_nil ⟨S, .refl F.inv, F⟩

theorem Ex.cons {st : Stmt} {rest : List Stmt} {o : Out} (h1 : Ex1 C fr n vals st (.next vals')) (h2 : Ex C fr n vals' rest o) : Ex C fr n vals (st :: rest) o :=
  fun hb env A S s F => wpAny_execs_cons (wpAny_mono (h1 hb env A S s F) (fun f s' x => by
    obtain ⟨S', g, y⟩ := x
    cases f <;> first | exact y.elim | skip
    refine wpAny_mono (h2 hb env A S' s' y) (fun f s'' z => ?_) fun _ _ q => q
    obtain ⟨S'', g', z⟩ := z
    exact ⟨S'', g.trans g', z⟩) fun _ _ q => q)

theorem Ex.stop {st : Stmt} {rest : List Stmt} {o : Out} (h1 : Ex1 C fr n vals st o) (ho : ∀ v, o ≠ .next v) : Ex C fr n vals (st :: rest) o :=
  fun hb env A S s F => wpAny_execs_cons (wpAny_mono (h1 hb env A S s F) (fun f s' x => by
    obtain ⟨S', g, y⟩ := x
    cases o with
    | next v => exact absurd rfl (ho v)
    | brk v => cases f <;> first | exact y.elim | exact ⟨S', g, y⟩
    | cont v => cases f <;> first | exact y.elim | exact ⟨S', g, y⟩
    | ret p => cases f <;> first | exact y.elim | exact ⟨S', g, y⟩) fun _ _ q => q)

theorem Ex.one {st : Stmt} {o : Out} (h1 : Ex1 C fr n vals st o) : Ex C fr n vals [st] o := by
  cases o with
  | next v => exact Ex.cons h1 .nil
  | brk v => exact Ex.stop h1 (fun _ q => by cases q)
  | cont v => exact Ex.stop h1 (fun _ q => by cases q)
  | ret p => exact Ex.stop h1 (fun _ q => by cases q)

/-! leaves -/
theorem Holds.load {env : Env} {A : Around} {s : Shared} {x : Str} {v : Value} {Q : Value → Shared → Prop} {E : Value → Shared → Prop} (hk : env.scope.kind = .function) (y : Holds env s.heap x v) (hn : (x == ("__classdict__" : Str)) = false) (h : Q v s) :
    wpAny C.M A (loadName env x) Q E s := by
  rcases y with ⟨a, m, b, e⟩ | ⟨a | a, c, b, d⟩
  · exact wpAny_loadName_local hk a b e h
  · exact wpAny_loadName_cell hk a b d h
  · exact wpAny_loadName_free hk a b d h hn

theorem Ev.name {x : Str} {pos : Pos} {p : VP} (i : Nat) (hx : fr.names[i]? = some x) (hv : vals[i]? = some (.val p)) (hd : (x == ("__debug__" : Str)) = false := by decide) (hn : (x == ("__classdict__" : Str)) = false := by decide) :
    Ev C fr n vals (.Name x pos) p := fun hb env A S s F => by
  obtain ⟨f, _, hs, _⟩ := F.slots
  obtain ⟨v, y, z⟩ := hs i x _ hx hv
  exact wpAny_Name (y.load F.kind hn ⟨S, .refl F.inv, z⟩) hd

theorem Inv.tok {S : ASet} {s : Shared} (I : Inv C S s) (t : Nat) : Inv C S { s with toks := t } := ⟨I.base, I.live, I.tab, I.notab, I.gens, I.os⟩
theorem Grow.tok {S : ASet} {s : Shared} (I : Inv C S s) (t : Nat) : Grow C S s S { s with toks := t } :=
  ⟨I.tok t, fun _ h => h, fun _ h => .inl h, fun _ _ _ _ e => e⟩

theorem Ev.none {k pos} : Ev C fr n vals (.Constant .none k pos) vNone := fun _ _ _ S _ F => wpAny_Constant_none ⟨S, .refl F.inv, rfl⟩
theorem Ev.bool {b k pos} : Ev C fr n vals (.Constant (.bool b) k pos) (vBool b) := fun _ _ _ S _ F => wpAny_Constant_bool ⟨S, .refl F.inv, rfl⟩
theorem Ev.int {i k pos} : Ev C fr n vals (.Constant (.int i) k pos) (vInt i) := fun _ _ _ S _ F => wpAny_Constant_int ⟨S, Grow.tok F.inv _, _, rfl⟩
theorem Ev.str {x k pos} : Ev C fr n vals (.Constant (.str x) k pos) (vStr x) := fun _ _ _ S _ F => wpAny_Constant_str ⟨S, Grow.tok F.inv _, _, rfl⟩

end
end Mine

/-! LOps -/
namespace Mine
open PySem PySem.W PyProof.Rows

section
variable {C : Cx} {fr : Shape} {n : Nat} {vals vals' : List Slot}

/-! growth of the heap by one new object -/
theorem size_none (h : Heap) : h.get? h.objs.size = none := by
  cases e : h.get? h.objs.size with
  | none => rfl
  | some o => exact absurd (Heap.lt_size e) (Nat.lt_irrefl _)

theorem TabOk.move {S S' : ASet} {h h' : Heap} {t : TabSpec} (x : TabOk S h t) (hP : ∀ o, h.get? t.P = some o → h'.get? t.P = some o) (hS : ∀ a, S a → S' a)
    (hk : ∀ a o, S a → h.get? a = some o → h'.get? a = some o) : TabOk S' h' t := by
  obtain ⟨ps, h1, h2, h3⟩ := x
  refine ⟨ps, hP _ h1, h2, fun x hx => (h3 x hx).imp id fun z => ?_⟩
  obtain ⟨c', e1, e2, c, o, vs, tk, q1, q2, q3⟩ := z
  refine ⟨c', e1, hS _ e2, c, o, vs, tk, q1, ?_, q3⟩
  cases q1
  exact hk _ _ e2 q2

/-- everything stands; S may take in new addresses -/
theorem grow_of_kept {S S' : ASet} {s : Shared} {h' : Heap} {tk : Nat} (I : Inv C S s) (hk : ∀ b o, s.heap.get? b = some o → h'.get? b = some o)
    (hS : ∀ a, S a → S' a) (hn : ∀ a, S' a → S a ∨ (s.heap.get? a = none ∧ (h'.get? a).isSome = true)) : Grow C S s S' { s with heap := h', toks := tk } where
  inv := {
    base := fun b o e => ⟨hk _ _ (I.base b o e).1, hS _ (I.base b o e).2⟩
    live := fun a ha => (hn a ha).elim (fun q => by
      have := I.live a q
      cases e : s.heap.get? a with
      | none => rw [e] at this; cases this
      | some o => show (h'.get? a).isSome = true; rw [hk _ _ e]; rfl) fun q => q.2
    tab := fun t ht => (I.tab t ht).move (fun o e => hk _ _ e) hS fun a o _ e => hk _ _ e
    notab := fun a ha => (hn a ha).elim (I.notab a) fun q => by
      rintro ⟨t, ht, rfl⟩
      obtain ⟨ps, h1, _⟩ := I.tab t ht
      rw [q.1] at h1; cases h1
    gens := I.gens
    os := I.os }
  sub := hS
  new := fun a ha => (hn a ha).imp id fun q => not_live q.1
  kept := fun b o _ _ e => hk _ _ e

theorem grow_push {S : ASet} {s : Shared} {o : Obj} {tk : Nat} (I : Inv C S s) (ho : o.isFreed = false) :
    Grow C S s (fun a => S a ∨ a = s.heap.objs.size) { s with heap := s.heap.push o, toks := tk } :=
  grow_of_kept I (fun _ _ e => Heap.get?_push_of_some o e) (fun _ h => .inl h) fun a h => h.imp id fun e => by
    subst e; exact ⟨size_none _, by rw [Heap.get?_push_size _ ho]; rfl⟩

/-- a new object that S does not take in -/
theorem grow_push' {S : ASet} {s : Shared} {o : Obj} {tk : Nat} (I : Inv C S s) :
    Grow C S s S { s with heap := s.heap.push o, toks := tk } :=
  grow_of_kept I (fun _ _ e => Heap.get?_push_of_some o e) (fun _ h => h) fun _ h => .inl h

theorem pushed_list {S : ASet} {s : Shared} {vs : List Value} {l : List VP} {m : Nat} (I : Inv C S s) (x : All2 S s.heap vs l) :
    (vLst l).P (fun a => S a ∨ a = s.heap.objs.size) (s.heap.push { cls := .type "list", data := .seq vs.toArray m }) (.ref s.heap.objs.size) :=
  ⟨_, vs, rfl, .inr rfl, ⟨_, _, Heap.get?_push_size _ rfl, rfl, rfl, rfl, rfl⟩, (x.keep fun _ _ _ e => Heap.get?_push_of_some _ e).mono fun _ h => .inl h⟩
theorem pushed_tup {S : ASet} {s : Shared} {vs : List Value} {l : List VP} {m : Nat} (I : Inv C S s) (x : All2 S s.heap vs l) :
    (vTup l).P (fun a => S a ∨ a = s.heap.objs.size) (s.heap.push { cls := .type "tuple", data := .seq vs.toArray m }) (.ref s.heap.objs.size) :=
  ⟨_, vs, rfl, .inr rfl, ⟨_, Heap.get?_push_size _ rfl, rfl, _, rfl⟩, (x.keep fun _ _ _ e => Heap.get?_push_of_some _ e).mono fun _ h => .inl h⟩

/-! two trees one behind the other -/
theorem Gives.seq {A : Around} {S : ASet} {s : Shared} {t : Sem Value} {p q : VP} {Q : Value → Shared → Prop} (h : Gives C A t S s p)
    (k : ∀ v S₁ s₁, Grow C S s S₁ s₁ → p.P S₁ s₁.heap v → Q v s₁) : wpAny C.M A t Q F0 s :=
  wpAny_mono h (fun v s₁ ⟨S₁, g, x⟩ => k v S₁ s₁ g x) fun _ _ z => z

/-! operators -/
noncomputable def BinG (C : Cx) (op : Operator) (p q r : VP) : Prop :=
  ∀ A S s a b, Inv C S s → AOk 0 A → p.P S s.heap a → q.P S s.heap b → Gives C A (binaryOp op a b) S s r
noncomputable def CmpG (C : Cx) (op : CmpOp) (p q : VP) (r : Bool) : Prop :=
  ∀ A S s a b, Inv C S s → AOk 0 A → p.P S s.heap a → q.P S s.heap b → Gives C A (compareOp op a b) S s (vBool r)

theorem Ev.bin {l r : Expr} {op : Operator} {pos : Pos} {p q u : VP} (hl : Ev C fr n vals l p) (hr : Ev C fr n vals r q) (ho : BinG C op p q u) : Ev C fr n vals (.BinOp l op r pos) u :=
  fun hb env A S s F => wpAny_BinOp (Gives.seq (q := p) (hl hb env A S s F) fun a S₁ s₁ g₁ x =>
    Gives.seq (q := p) (hr hb env A S₁ s₁ (F.grow g₁)) fun b S₂ s₂ g₂ y =>
      wpAny_mono (ho A S₂ s₂ a b g₂.inv (F.around.le (Nat.zero_le _)) (p.mono g₂.sub (p.keep (g₂.keeps g₁.inv) x)) y) (fun _ _ ⟨S₃, g₃, z⟩ => ⟨S₃, (g₁.trans g₂).trans g₃, z⟩) fun _ _ z => z)

theorem Ev.cmp {l r : Expr} {op : CmpOp} {pos : Pos} {p q : VP} {u : Bool} (hl : Ev C fr n vals l p) (hr : Ev C fr n vals r q) (ho : CmpG C op p q u) (hm : behindInMarks op r = false := by with_unfolding_all rfl) :
    Ev C fr n vals (.Compare l [op] [r] pos) (vBool u) :=
  fun hb env A S s F => wpAny_Compare1 (Gives.seq (q := p) (hl hb env A S s F) fun a S₁ s₁ g₁ x =>
    Gives.seq (q := p) (hr hb env A S₁ s₁ (F.grow g₁)) fun b S₂ s₂ g₂ y =>
      wpAny_mono (ho A S₂ s₂ a b g₂.inv (F.around.le (Nat.zero_le _)) (p.mono g₂.sub (p.keep (g₂.keeps g₁.inv) x)) y) (fun _ _ ⟨S₃, g₃, z⟩ => ⟨S₃, (g₁.trans g₂).trans g₃, z⟩) fun _ _ z => z) hm

theorem EvB.cmp {l r : Expr} {op : CmpOp} {pos : Pos} {p q : VP} {u : Bool} (hl : Ev C fr n vals l p) (hr : Ev C fr n vals r q) (ho : CmpG C op p q u) (hm : behindInMarks op r = false := by with_unfolding_all rfl) :
    EvB C fr n vals (.Compare l [op] [r] pos) u :=
  fun hb env A S s F => wpAny_isTrue_Compare1 (Gives.seq (q := p) (hl hb env A S s F) fun a S₁ s₁ g₁ x =>
    Gives.seq (q := p) (hr hb env A S₁ s₁ (F.grow g₁)) fun b S₂ s₂ g₂ y =>
      wpAny_mono (ho A S₂ s₂ a b g₂.inv (F.around.le (Nat.zero_le _)) (p.mono g₂.sub (p.keep (g₂.keeps g₁.inv) x)) y) (fun v s₃ pq => by
        obtain ⟨S₃, g₃, z⟩ := pq
        cases (show v = .bool u from z)
        exact wpAny_truthy_bool ⟨rfl, S₃, (g₁.trans g₂).trans g₃⟩) fun _ _ z => z) hm

theorem EvB.not {x : Expr} {pos : Pos} {b : Bool} (h : EvB C fr n vals x b) : EvB C fr n vals (.UnaryOp .Not x pos) (!b) :=
  fun hb env A S s F => wpAny_isTrue_Not (wpAny_mono (h hb env A S s F) (fun _ _ ⟨e, z⟩ => ⟨by rw [e], z⟩) fun _ _ z => z)

/-- lists of tests -/
noncomputable def EvAll (C : Cx) (fr : Shape) (n : Nat) (vals : List Slot) (op : BoolOp) (es : List Expr) (b : Bool) : Prop :=
  ∀ hb env A S s, FrameOk C fr n hb env A S s vals → wpAny C.M A (allTrue op es env) (fun c s' => c = b ∧ ∃ S', Grow C S s S' s') F0 s

theorem EvAll.and_nil : EvAll C fr n vals .And [] true := fun _ _ _ S _ F => wpAny_allTrue_And_nil ⟨rfl, S, .refl F.inv⟩
theorem EvAll.or_nil : EvAll C fr n vals .Or [] false := fun _ _ _ S _ F => wpAny_allTrue_Or_nil ⟨rfl, S, .refl F.inv⟩
theorem EvAll.and_cons {x : Expr} {rest : List Expr} {a b : Bool} (h1 : EvB C fr n vals x a) (h2 : a = true → EvAll C fr n vals .And rest b) : EvAll C fr n vals .And (x :: rest) (a && b) :=
  fun hb env A S s F => wpAny_allTrue_And_cons (wpAny_mono (h1 hb env A S s F) (fun c s₁ pq => by
    obtain ⟨e, S₁, g⟩ := pq
    subst e
    cases c with
    | false => exact ⟨rfl, S₁, g⟩
    | true => exact wpAny_mono (h2 rfl hb env A S₁ s₁ (F.grow g)) (fun _ _ ⟨e, S₂, g₂⟩ => ⟨by rw [e]; rfl, S₂, g.trans g₂⟩) fun _ _ z => z) fun _ _ z => z)
theorem EvAll.or_cons {x : Expr} {rest : List Expr} {a b : Bool} (h1 : EvB C fr n vals x a) (h2 : a = false → EvAll C fr n vals .Or rest b) : EvAll C fr n vals .Or (x :: rest) (a || b) :=
  fun hb env A S s F => wpAny_allTrue_Or_cons (wpAny_mono (h1 hb env A S s F) (fun c s₁ pq => by
    obtain ⟨e, S₁, g⟩ := pq
    subst e
    cases c with
    | true => exact ⟨rfl, S₁, g⟩
    | false => exact wpAny_mono (h2 rfl hb env A S₁ s₁ (F.grow g)) (fun _ _ ⟨e, S₂, g₂⟩ => ⟨by rw [e]; rfl, S₂, g.trans g₂⟩) fun _ _ z => z) fun _ _ z => z)
theorem EvB.bool {op : BoolOp} {es : List Expr} {pos : Pos} {b : Bool} (h : EvAll C fr n vals op es b) : EvB C fr n vals (.BoolOp op es pos) b :=
  fun hb env A S s F => wpAny_isTrue_BoolOp (h hb env A S s F)

/-- how true a kind is -/
noncomputable def TruG (C : Cx) (p : VP) (b : Bool) : Prop :=
  ∀ A S s v, Inv C S s → AOk 0 A → p.P S s.heap v → wpAny C.M A (truthy v) (fun c s' => c = b ∧ ∃ S', Grow C S s S' s') F0 s
theorem TruG.bool (b : Bool) : TruG C (vBool b) b := fun A S s v I _ e => by cases (show v = .bool b from e); exact wpAny_truthy_bool ⟨rfl, S, .refl I⟩

end
end Mine

/-! LStm -/
namespace Mine
open PySem PySem.W PyProof.Rows

section
variable {C : Cx} {fr : Shape} {n : Nat} {vals vals' : List Slot}

/-! one address changes that S does not hold -/
theorem step_sameBut {hb : ASet} {S : ASet} {s : Shared} {h' : Heap} {a : Addr} {tk : Nat} (I : Inv C S s) (hs : Heap.SameBut a s.heap h') (nS : ¬ S a) (nt : ¬ C.isTab a) (nb : ¬ hb a) : Step C hb S s S { s with heap := h', toks := tk } where
  inv := {
    base := fun b o e => ⟨(hs.2 b (fun q => nS (q ▸ (I.base b o e).2))).trans (I.base b o e).1, (I.base b o e).2⟩
    live := fun b hb' => by
      show (h'.get? b).isSome = true
      rw [hs.2 b (fun q => nS (q ▸ hb'))]; exact I.live b hb'
    tab := fun t ht => (I.tab t ht).move (fun o e => (hs.2 _ (fun q => nt ⟨t, ht, q⟩)).trans e) (fun _ h => h) fun b o hb' e => (hs.2 b (fun q => nS (q ▸ hb'))).trans e
    notab := I.notab
    gens := I.gens
    os := I.os }
  sub := fun _ h => h
  new := fun _ h => .inl h
  kept := fun b o _ h e => (hs.2 b (fun q => by
    subst q
    rcases h with h | h
    · exact nb h
    · exact nS h)).trans e

theorem list_isSome {h : Heap} {a : Addr} {m : Array Value} (x : PL h a m) : (h.get? a).isSome = true := by
  obtain ⟨o, _, e, _⟩ := x; rw [e]; rfl

theorem list_ne_ns {h : Heap} {a b : Addr} {m : Array Value} {f : Str → Option Value} (x : PL h a m) (y : h.Ns b f) : a ≠ b := by
  rintro rfl
  obtain ⟨o, k, e, _, _, d, _⟩ := x
  obtain ⟨o', es, ep, e', d', _⟩ := y
  rw [e] at e'; cases e'; rw [d] at d'; cases d'
theorem list_ne_cell {h : Heap} {a b : Addr} {m : Array Value} {f : Option Value} (x : PL h a m) (y : h.IsCell b f) : a ≠ b := by
  rintro rfl
  obtain ⟨o, k, e, _, _, d, _⟩ := x
  obtain ⟨o', e', d'⟩ := y
  rw [e] at e'; cases e'; rw [d] at d'; cases d'
theorem ns_ne_cell {h : Heap} {a b : Addr} {m : Str → Option Value} {f : Option Value} (x : h.Ns a m) (y : h.IsCell b f) : a ≠ b := by
  rintro rfl
  obtain ⟨o, es, ep, e, d, _⟩ := x
  obtain ⟨o', e', d'⟩ := y
  rw [e] at e'; cases e'; rw [d] at d'; cases d'
theorem list_sameBut {h h' : Heap} {a b : Addr} {m : Array Value} (x : PL h a m) (hs : Heap.SameBut b h h') (hab : a ≠ b) : PL h' a m := by
  obtain ⟨o, k, e, r⟩ := x; exact ⟨o, k, (hs.2 a hab).trans e, r⟩

/-- a store changes one address, that of the names or a cell's -/
noncomputable def StoreAt (env : Env) (h h' : Heap) : Prop := ∃ a, Heap.SameBut a h h' ∧ (a = env.locals ∨ ∃ y, env.cells.lookup y = some a)

/-- how a name may be stored -/
noncomputable def canStore (fr : Shape) (x : Str) : Bool := fr.scope.names.lookup x == some .local || (fr.scope.names.lookup x == some .cell && fr.cells.contains x)

theorem kindOf_eq (env : Env) (x : Str) : env.kindOf x = env.scope.names.lookup x := rfl

/-- storing a value: the name holds it, all else stands -/
theorem FrameOk.storeRaw {hb env A S s vals} {x : Str} {v : Value} {Q : Unit → Shared → Prop} (F : FrameOk C fr n hb env A S s vals) (hc : canStore fr x = true)
    (h : ∀ h' tk, Step C hb S s S { s with heap := h', toks := tk } → Holds env h' x v → (∀ y u, y ≠ x → Holds env s.heap y u → Holds env h' y u) →
      (∀ a items, PL s.heap a items → PL h' a items) → (∃ m, h'.Ns env.locals m) → (∀ y c, env.cells.lookup y = some c → ∃ u, h'.IsCell c u) → (∀ a o, S a → s.heap.get? a = some o → h'.get? a = some o) → StoreAt env s.heap h' → Q () { s with heap := h', toks := tk }) :
    wpAny C.M A (storeName env x v) Q F0 s := by
  obtain ⟨m, hm⟩ := F.ns
  unfold canStore at hc
  rw [← F.scope] at hc
  rcases Bool.or_eq_true_iff.mp hc with hl | hl
  · have hl : env.kindOf x = some .local := eq_of_beq hl
    refine wpAny_storeName_local hl hm (fun h' hn hs => ?_) (by rw [F.kind]; rfl)
    have st := step_sameBut (hb := hb) (tk := s.toks + 1) F.inv hs F.locNot.1 (F.inv.notab_ns hm) F.locNot.2
    refine h h' _ st (.inl ⟨hl, _, hn, by simp⟩) (fun y u hy z => ?_) (fun a items z => list_sameBut z hs (list_ne_ns z hm)) ⟨_, hn⟩ (fun y c q => ?_) (fun a o ha e => (hs.2 a fun q => F.locNot.1 (q ▸ ha)).trans e) ⟨_, hs, .inl rfl⟩
    · rcases z with ⟨k, m', hm', e⟩ | ⟨k, c, e, z⟩
      · cases ns_unique hm hm'
        exact .inl ⟨k, _, hn, by simp [hy, e]⟩
      · exact .inr ⟨k, c, e, z.sameBut hs (Ne.symm (ns_ne_cell hm z))⟩
    · obtain ⟨u, z⟩ := F.cells y c q
      exact ⟨u, z.sameBut hs (Ne.symm (ns_ne_cell hm z))⟩
  · obtain ⟨hl, hw⟩ := Bool.and_eq_true_iff.mp hl
    have hl : env.kindOf x = some .cell := eq_of_beq hl
    obtain ⟨c, hcl, hcb, nS⟩ := F.ownc x (by simpa using hw)
    obtain ⟨u₀, hz⟩ := F.cells x c hcl
    refine wpAny_storeName_cell F.kind hl hcl hz fun h' hn hs => ?_
    have st := step_sameBut (hb := hb) (tk := s.toks) F.inv hs nS (F.inv.notab_cell hz) hcb
    refine h h' _ st (.inr ⟨.inl hl, c, hcl, hn⟩) (fun y u hy z => ?_) (fun a items z => list_sameBut z hs (list_ne_cell z hz)) ⟨m, hm.sameBut hs (ns_ne_cell hm hz)⟩ (fun y c' q => ?_) (fun a o ha e => (hs.2 a fun q => nS (q ▸ ha)).trans e) ⟨_, hs, .inr ⟨x, hcl⟩⟩
    · rcases z with ⟨k, m', hm', e⟩ | ⟨k, c', e, z⟩
      · exact .inl ⟨k, m', hm'.sameBut hs (ns_ne_cell hm' hz), e⟩
      · exact .inr ⟨k, c', e, z.sameBut hs fun q => hy (F.apart x (by simpa using hw) y c hcl (q ▸ e))⟩
    · by_cases e : c' = c
      · subst e; exact ⟨_, hn⟩
      · obtain ⟨u, z⟩ := F.cells y c' q
        exact ⟨u, z.sameBut hs e⟩

theorem nodup_ne {l : List Str} (hn : l.Nodup) {i j : Nat} {x y : Str} (hi : l[i]? = some x) (hj : l[j]? = some y) (hij : i ≠ j) : y ≠ x := by
  rintro rfl
  obtain ⟨hi1, hi2⟩ := List.getElem?_eq_some_iff.mp hi
  obtain ⟨hj1, hj2⟩ := List.getElem?_eq_some_iff.mp hj
  have key : ∀ a b : Nat, a < b → (ha : a < l.length) → (hb : b < l.length) → l[a] ≠ l[b] := fun a b hab ha hb => List.pairwise_iff_getElem.mp hn a b ha hb hab
  rcases Nat.lt_or_gt_of_ne hij with q | q
  · exact key i j q hi1 hj1 (hi2.trans hj2.symm)
  · exact key j i q hj1 hi1 (hj2.trans hi2.symm)

theorem set_self {vals : List Slot} {i : Nat} {t u : Slot} (ht : (vals.set i u)[i]? = some t) : t = u := by
  rw [List.getElem?_set] at ht
  simp only [if_true] at ht
  split at ht
  · exact (Option.some.inj ht).symm
  · cases ht

/-- the frame behind a store: the slot i is new, told by t -/
theorem FrameOk.storeSlot {hb env A S s vals} {x : Str} {v : Value} {t : Slot} {i : Nat} {Q : Unit → Shared → Prop} (F : FrameOk C fr n hb env A S s vals) (hi : fr.names[i]? = some x) (hnd : fr.names.Nodup) (hc : canStore fr x = true)
    {f : Nat → Addr} (hsl : SlotsAt f hb env fr.names S s.heap vals) (a : Addr)
    (hnew : ∀ h', Holds env h' x v → (∀ a o, S a → s.heap.get? a = some o → h'.get? a = some o) → (∀ a items, PL s.heap a items → PL h' a items) → SlotOk hb env a S h' x t)
    (hap : ∀ l, t = .own l → ∀ j l', vals[j]? = some (.own l') → j ≠ i → f j ≠ a)
    (h : ∀ s', Step C hb S s S s' → FrameOk C fr n hb env A S s' (vals.set i t) → StoreAt env s.heap s'.heap → Q () s') : wpAny C.M A (storeName env x v) Q F0 s := by
  refine F.storeRaw hc fun h' tk st h1 h2 h3 h4 h5 h6 h7 => h _ st ?_ h7
  refine ⟨st.inv, F.scope, F.kind, F.globals, F.builtins, F.around, fun b q => st.alive (.inl q) (F.alive b q), h4, F.locNot, h5, F.apart, F.ownc, ?_⟩
  obtain ⟨hl, hs, hd⟩ := hsl
  refine ⟨fun j => if j = i then a else f j, by simpa using hl, fun j y u hy hu => ?_, fun j k l l' hj hk e => ?_⟩
  · by_cases e : j = i
    · subst e
      rw [hi] at hy; cases hy
      cases set_self hu
      simp only [if_true]
      exact hnew h' h1 h6 h3
    · simp only [e, if_false]
      rw [List.getElem?_set_ne (Ne.symm e)] at hu
      have q := hs j y u hy hu
      have hne := nodup_ne hnd hi hy (Ne.symm e)
      cases u with
      | un => trivial
      | val p' => obtain ⟨u, a, b⟩ := q; exact ⟨u, h2 _ _ hne a, p'.keep h6 b⟩
      | own l => obtain ⟨a, b, c, vs, d, e'⟩ := q; exact ⟨h2 _ _ hne a, b, c, vs, h3 _ _ d, e'.keep h6⟩
  · by_cases ej : j = i <;> by_cases ek : k = i
    · rw [ej, ek]
    · exfalso
      subst ej
      rw [List.getElem?_set_ne (Ne.symm ek)] at hk
      simp only [if_true, ek, if_false] at e
      exact hap l (set_self hj).symm k l' hk ek e.symm
    · exfalso
      subst ek
      rw [List.getElem?_set_ne (Ne.symm ej)] at hj
      simp only [if_true, ej, if_false] at e
      exact hap l' (set_self hk).symm j l hj ej e
    · rw [List.getElem?_set_ne (Ne.symm ej)] at hj
      rw [List.getElem?_set_ne (Ne.symm ek)] at hk
      simp only [ej, ek, if_false] at e
      exact hd j k l l' hj hk e

theorem FrameOk.store {hb env A S s vals} {x : Str} {v : Value} {p : VP} {i : Nat} {Q : Unit → Shared → Prop} (F : FrameOk C fr n hb env A S s vals) (hi : fr.names[i]? = some x) (hnd : fr.names.Nodup) (hc : canStore fr x = true)
    (hp : p.P S s.heap v) (h : ∀ s', Step C hb S s S s' → FrameOk C fr n hb env A S s' (vals.set i (.val p)) → StoreAt env s.heap s'.heap → Q () s') : wpAny C.M A (storeName env x v) Q F0 s := by
  obtain ⟨f, hsl⟩ := F.slots
  exact F.storeSlot (t := .val p) hi hnd hc hsl 0 (fun h' h1 h2 _ => ⟨v, h1, p.keep h2 hp⟩) (fun l q => by cases q) h

/-- a list that nobody else has -/
structure Fresh (C : Cx) (S : ASet) (s : Shared) (S' : ASet) (s' : Shared) (v : Value) (l : List VP) : Prop where
  grow : Grow C S s S' s'
  is : ∃ a vs, v = .ref a ∧ s.heap.get? a = none ∧ ¬ S' a ∧ PL s'.heap a (List.toArray vs) ∧ All2 S' s'.heap vs l

noncomputable def GivesL (C : Cx) (A : Around) (t : Sem Value) (S : ASet) (s : Shared) (l : List VP) : Prop :=
  wpAny C.M A t (fun v s' => ∃ S', Fresh C S s S' s' v l) F0 s
noncomputable def EvL (C : Cx) (fr : Shape) (n : Nat) (vals : List Slot) (e : Expr) (l : List VP) : Prop :=
  ∀ hb env A S s, FrameOk C fr n hb env A S s vals → GivesL C A (eval e env) S s l

/-- such a list may be taken in -/
theorem Fresh.take {S S' : ASet} {s s' : Shared} {v : Value} {l : List VP} (x : Fresh C S s S' s' v l) : ∃ S'', Grow C S s S'' s' ∧ (∀ a, S' a → S'' a) ∧ (vLst l).P S'' s'.heap v := by
  obtain ⟨g, a, vs, rfl, h0, nS, hl, hx⟩ := x
  refine ⟨fun b => S' b ∨ b = a, ⟨⟨fun b o e => ⟨(g.inv.base b o e).1, .inl (g.inv.base b o e).2⟩, fun b h => ?_, fun t ht => (g.inv.tab t ht).move (fun _ e => e) (fun _ h => .inl h) fun _ _ _ e => e, fun b h => ?_, g.inv.gens, g.inv.os⟩,
    fun b h => .inl (g.sub b h), fun b h => ?_, g.kept⟩, fun b h => .inl h, a, vs, rfl, .inr rfl, hl, hx.mono fun _ h => .inl h⟩
  · rcases h with h | rfl
    · exact g.inv.live b h
    · exact list_isSome hl
  · rcases h with h | rfl
    · exact g.inv.notab b h
    · exact g.inv.notab_list hl
  · rcases h with h | rfl
    · exact g.new b h
    · exact .inr (not_live h0)

theorem EvL.ev {e : Expr} {l : List VP} (h : EvL C fr n vals e l) : Ev C fr n vals e (vLst l) := fun hb env A S s F =>
  wpAny_mono (h hb env A S s F) (fun _ _ ⟨_, x⟩ => let ⟨S'', g, _, y⟩ := x.take; ⟨S'', g, y⟩) fun _ _ z => z

theorem FrameOk.storeOwn {hb env A S s vals S' s'} {x : Str} {v : Value} {l : List VP} {i : Nat} {Q : Unit → Shared → Prop} (F : FrameOk C fr n hb env A S s vals) (hi : fr.names[i]? = some x) (hnd : fr.names.Nodup) (hc : canStore fr x = true)
    (hf : Fresh C S s S' s' v l) (h : ∀ s'', Step C hb S s S' s'' → FrameOk C fr n hb env A S' s'' (vals.set i (.own l)) → StoreAt env s'.heap s''.heap → Q () s'') : wpAny C.M A (storeName env x v) Q F0 s' := by
  obtain ⟨g, a, vs, rfl, h0, nS, hl, hx⟩ := hf
  obtain ⟨f, hsl⟩ := F.slots
  have F' := F.grow g
  refine F'.storeSlot (t := .own l) hi hnd hc (hsl.grow F.inv g) a (fun h' h1 h2 h3 => ⟨h1, nS, ?_, vs, h3 _ _ hl, hx.keep h2⟩) (fun _ _ j l' hj _ e => ?_) fun s'' st F'' q => h s'' ((F.stepGrow g).trans st) F'' q
  · exact fun q => by have := F.alive a q; rw [h0] at this; cases this
  · have hj' : j < fr.names.length := by rw [hsl.1]; exact (List.getElem?_eq_some_iff.mp hj).1
    obtain ⟨_, _, _, _, ⟨o, k, e1, _⟩, _⟩ := hsl.2.1 j _ _ (List.getElem?_eq_getElem hj') hj
    rw [e, h0] at e1; cases e1

end
end Mine

/-! LOwn -/
namespace Mine
open PySem PySem.W PyProof.Rows

section
variable {C : Cx} {fr : Shape} {n : Nat} {vals vals' : List Slot}

theorem SlotsAt.own {f : Nat → Addr} {hb : ASet} {env : Env} {S : ASet} {h : Heap} {i : Nat} {x : Str} {l : List VP} {names : List Str} (hsl : SlotsAt f hb env names S h vals) (hi : names[i]? = some x) (hv : vals[i]? = some (.own l)) :
    Holds env h x (.ref (f i)) ∧ ¬ S (f i) ∧ ¬ hb (f i) ∧ ∃ vs, PL h (f i) (List.toArray vs) ∧ All2 S h vs l := hsl.2.1 i x _ hi hv

theorem Holds.sameList {env : Env} {h h' : Heap} {a : Addr} {its : Array Value} {y : Str} {u : Value} (hl : PL h a its) (hs : Heap.SameBut a h h') (x : Holds env h y u) : Holds env h' y u := by
  rcases x with ⟨k, m, hm, e⟩ | ⟨k, c, e, z⟩
  · exact .inl ⟨k, m, hm.sameBut hs (Ne.symm (list_ne_ns hl hm)), e⟩
  · exact .inr ⟨k, c, e, z.sameBut hs (Ne.symm (list_ne_cell hl z))⟩

theorem FrameOk.mutate {hb env A S s} {f : Nat → Addr} {i : Nat} {x : Str} {l l' : List VP} {vs vs' : List Value} {h' : Heap} {tk : Nat} (F : FrameOk C fr n hb env A S s vals) (hsl : SlotsAt f hb env fr.names S s.heap vals)
    (hi : fr.names[i]? = some x) (hv : vals[i]? = some (.own l)) (hl : PL s.heap (f i) (List.toArray vs)) (hs : Heap.SameBut (f i) s.heap h') (hl' : PL h' (f i) (List.toArray vs')) (hx : All2 S s.heap vs' l') :
    Step C hb S s S { s with heap := h', toks := tk } ∧ FrameOk C fr n hb env A S { s with heap := h', toks := tk } (vals.set i (.own l')) := by
  obtain ⟨hH, nS, nb, _⟩ := hsl.own hi hv
  have st := step_sameBut (hb := hb) (tk := tk) F.inv hs nS (F.inv.notab_list hl) nb
  have kp : ∀ a o, S a → s.heap.get? a = some o → h'.get? a = some o := fun a o ha e => (hs.2 a fun q => nS (q ▸ ha)).trans e
  refine ⟨st, st.inv, F.scope, F.kind, F.globals, F.builtins, F.around, fun b q => st.alive (.inl q) (F.alive b q), ?_, F.locNot, fun y c q => ?_, F.apart, F.ownc, f, by simpa using hsl.1, fun j y u hy hu => ?_, fun j k p p' hj hk e => ?_⟩
  · obtain ⟨m, hm⟩ := F.ns; exact ⟨m, hm.sameBut hs (Ne.symm (list_ne_ns hl hm))⟩
  · obtain ⟨u, z⟩ := F.cells y c q; exact ⟨u, z.sameBut hs (Ne.symm (list_ne_cell hl z))⟩
  · by_cases e : j = i
    · subst e
      rw [hi] at hy; cases hy
      cases set_self hu
      exact ⟨hH.sameList hl hs, nS, nb, vs', hl', hx.keep kp⟩
    · rw [List.getElem?_set_ne (Ne.symm e)] at hu
      have q := hsl.2.1 j y u hy hu
      cases u with
      | un => trivial
      | val p => obtain ⟨w, a, b⟩ := q; exact ⟨w, a.sameList hl hs, p.keep kp b⟩
      | own p => obtain ⟨a, b, c, ws, d, e'⟩ := q; exact ⟨a.sameList hl hs, b, c, ws, list_sameBut d hs (fun q => e (hsl.2.2 _ _ _ _ hu hv q)), e'.keep kp⟩
  · have own : ∀ (j : Nat) (p : List VP), (vals.set i (Slot.own l'))[j]? = some (Slot.own p) → ∃ p', vals[j]? = some (Slot.own p') := fun j p q => by
      by_cases e : i = j
      · subst e; exact ⟨l, hv⟩
      · rw [List.getElem?_set_ne e] at q; exact ⟨p, q⟩
    obtain ⟨_, hj⟩ := own _ _ hj
    obtain ⟨_, hk⟩ := own _ _ hk
    exact hsl.2.2 j k _ _ hj hk e

/-- the list is anyone's from here on -/
theorem FrameOk.freeze {hb env A S s} {i : Nat} {x : Str} {l : List VP} (F : FrameOk C fr n hb env A S s vals) (hi : fr.names[i]? = some x) (hv : vals[i]? = some (.own l)) :
    ∃ b its, PL s.heap b its ∧ ¬ S b ∧ Step C hb S s (fun a => S a ∨ a = b) s ∧ FrameOk C fr n hb env A (fun a => S a ∨ a = b) s (vals.set i (.val (vLst l))) := by
  obtain ⟨f, hsl⟩ := F.slots
  obtain ⟨hH, nS, nb, vs, hl, hx⟩ := hsl.own hi hv
  have sub : ∀ a, S a → (S a ∨ a = f i) := fun _ h => .inl h
  refine ⟨f i, _, hl, nS, ⟨⟨fun b o e => ⟨(F.inv.base b o e).1, .inl (F.inv.base b o e).2⟩, fun b h => ?_, fun t ht => (F.inv.tab t ht).move (fun _ e => e) sub fun _ _ _ e => e, fun b h => ?_, F.inv.gens, F.inv.os⟩,
    sub, fun b h => h.imp id fun e => by rw [e]; exact nb, fun _ _ _ _ e => e⟩, ?_⟩
  · rcases h with h | rfl
    · exact F.inv.live b h
    · exact list_isSome hl
  · rcases h with h | rfl
    · exact F.inv.notab b h
    · exact F.inv.notab_list hl
  · have I' : Inv C (fun a => S a ∨ a = f i) s := ⟨fun b o e => ⟨(F.inv.base b o e).1, .inl (F.inv.base b o e).2⟩, fun b h => by
      rcases h with h | rfl
      · exact F.inv.live b h
      · exact list_isSome hl, fun t ht => (F.inv.tab t ht).move (fun _ e => e) sub fun _ _ _ e => e, fun b h => by
      rcases h with h | rfl
      · exact F.inv.notab b h
      · exact F.inv.notab_list hl, F.inv.gens, F.inv.os⟩
    refine ⟨I', F.scope, F.kind, F.globals, F.builtins, F.around, F.alive, F.ns, ⟨fun h => h.elim F.locNot.1 fun e => ?_, F.locNot.2⟩, F.cells, F.apart, fun y hy => ?_, f, by simpa using hsl.1, fun j y u hy hu => ?_, fun j k p p' hj hk e => ?_⟩
    · obtain ⟨m, hm⟩ := F.ns; exact list_ne_ns hl hm e.symm
    · obtain ⟨c, e1, e2, e3⟩ := F.ownc y hy
      obtain ⟨u, z⟩ := F.cells y c e1
      exact ⟨c, e1, e2, fun h => h.elim e3 fun e => list_ne_cell hl z e.symm⟩
    · by_cases e : j = i
      · subst e
        rw [hi] at hy; cases hy
        cases set_self hu
        exact ⟨.ref (f j), hH, f j, vs, rfl, .inr rfl, hl, hx.mono sub⟩
      · rw [List.getElem?_set_ne (Ne.symm e)] at hu
        have q := hsl.2.1 j y u hy hu
        cases u with
        | un => trivial
        | val p => obtain ⟨w, a, b⟩ := q; exact ⟨w, a, p.mono sub b⟩
        | own p => obtain ⟨a, b, c, ws, d, e'⟩ := q; exact ⟨a, fun h => h.elim b fun q => e (hsl.2.2 _ _ _ _ hu hv q), c, ws, d, e'.mono sub⟩
    · have own : ∀ (j : Nat) (p : List VP), (vals.set i (Slot.val (vLst l)))[j]? = some (Slot.own p) → vals[j]? = some (Slot.own p) := fun j p q => by
        by_cases e : i = j
        · subst e; cases set_self q
        · rwa [List.getElem?_set_ne e] at q
      exact hsl.2.2 j k _ _ (own _ _ hj) (own _ _ hk) e

theorem Ex.freeze {ss : List Stmt} {o : Out} {x : Str} {l : List VP} (i : Nat) (hi : fr.names[i]? = some x) (hv : vals[i]? = some (.own l)) (h : Ex C fr n (vals.set i (.val (vLst l))) ss o) : Ex C fr n vals ss o := fun hb env A S s F => by
  obtain ⟨b, its, _, _, st, F'⟩ := F.freeze hi hv
  exact wpAny_mono (h hb env A _ s F') (fun f s' ⟨S'', g, y⟩ => ⟨S'', st.trans g, y⟩) fun _ _ z => z

/-- what grew from the frozen S grew from S: the list itself is left out again -/
theorem back_grow {S S'' : ASet} {s s' : Shared} {b : Addr} {its : Array Value} (I : Inv C S s) (hl : PL s.heap b its) (nS : ¬ S b) (g : Grow C (fun a => S a ∨ a = b) s S'' s') : Grow C S s (fun a => S'' a ∧ a ≠ b) s' := by
  have nt := I.notab_list hl
  have hl' : PL s'.heap b its := by obtain ⟨o, k, e, r⟩ := hl; exact ⟨o, k, g.all _ _ nt e, r⟩
  refine ⟨⟨fun c o e => ⟨(g.inv.base c o e).1, (g.inv.base c o e).2, fun q => nS (q ▸ (I.base c o e).2)⟩, fun a h => g.inv.live a h.1, fun t ht => ?_, fun a h => g.inv.notab a h.1, g.inv.gens, g.inv.os⟩,
    fun a h => ⟨g.sub a (.inl h), fun q => nS (q ▸ h)⟩, fun a h => ?_, fun c o nc _ e => g.all _ _ nc e⟩
  · obtain ⟨ps, h1, h2, h3⟩ := g.inv.tab t ht
    refine ⟨ps, h1, h2, fun x hx => (h3 x hx).imp id fun ⟨c', e1, e2, e3⟩ => ⟨c', e1, ⟨e2, fun q => ?_⟩, e3⟩⟩
    subst q
    obtain ⟨c, o, vs, t, q1, q2, q3, _⟩ := e3
    cases q1
    obtain ⟨o', k, e, _, _, d, _⟩ := hl'
    rw [e] at q2; cases q2; rw [d] at q3; cases q3
  · rcases g.new a h.1 with (q | q) | q
    · exact .inl q
    · exact absurd q h.2
    · exact .inr q

theorem Ev.borrow {e : Expr} {p : VP} {x : Str} {l : List VP} (i : Nat) (hi : fr.names[i]? = some x) (hv : vals[i]? = some (.own l)) (hp : p.Scalar) (h : Ev C fr n (vals.set i (.val (vLst l))) e p) : Ev C fr n vals e p := fun hb env A S s F => by
  obtain ⟨b, its, hl, nS, st, F'⟩ := F.freeze hi hv
  exact wpAny_mono (h hb env A _ s F') (fun v s' ⟨S'', g, y⟩ => ⟨_, back_grow F.inv hl nS g, hp _ _ _ _ _ y⟩) fun _ _ z => z
theorem All2.scalar {S S' : ASet} {h h' : Heap} : ∀ {vs : List Value} {ps : List VP}, (∀ p ∈ ps, VP.Scalar p) → All2 S h vs ps → All2 S' h' vs ps
  | [], [], _, _ => trivial
  | _ :: _, p :: _, k, ⟨a, b⟩ => ⟨k p (.head _) _ _ _ _ _ a, b.scalar fun q hq => k q (.tail _ hq)⟩
  | [], _ :: _, _, x => x.elim
  | _ :: _, [], _, x => x.elim
theorem EvL.borrow {e : Expr} {l' : List VP} {x : Str} {l : List VP} (i : Nat) (hi : fr.names[i]? = some x) (hv : vals[i]? = some (.own l)) (hp : ∀ p ∈ l', p.Scalar) (h : EvL C fr n (vals.set i (.val (vLst l))) e l') : EvL C fr n vals e l' := fun hb env A S s F => by
  obtain ⟨b, its, hl, nS, st, F'⟩ := F.freeze hi hv
  refine wpAny_mono (h hb env A _ s F') (fun v s' pq => ?_) fun _ _ z => z
  obtain ⟨S'', g, a, vs, e1, e2, e3, e4, e5⟩ := pq
  exact ⟨_, back_grow F.inv hl nS g, a, vs, e1, e2, fun q => e3 q.1, e4, e5.scalar hp⟩

end
end Mine

/-! LRule -/
namespace Mine
open PySem PySem.W PyProof.Rows

section
variable {C : Cx} {fr : Shape} {n : Nat} {vals vals' : List Slot}

/-! statements -/
theorem Ex1.assign {x : Str} {pos' pos : Pos} {e : Expr} {p : VP} (i : Nat) (hi : fr.names[i]? = some x) (hnd : fr.names.Nodup) (hc : canStore fr x = true) (h : Ev C fr n vals e p)
    (hs : ∀ env, swapsWith e (some (.Name x pos')) pos.line env = pure false := by intro _; rfl) : Ex1 C fr n vals (.Assign [.Name x pos'] e pos) (.next (vals.set i (.val p))) := fun hb env A S s F =>
  wpAny_Assign_Name (Gives.seq (q := p) (h hb env A S s F) fun v S₁ s₁ g x => (F.grow g).store hi hnd hc x fun s' st F' _ => ⟨S₁, (F.stepGrow g).trans st, F'⟩) (hs env)

theorem Ex1.assignOwn {x : Str} {pos' pos : Pos} {e : Expr} {l : List VP} (i : Nat) (hi : fr.names[i]? = some x) (hnd : fr.names.Nodup) (hc : canStore fr x = true) (h : EvL C fr n vals e l)
    (hs : ∀ env, swapsWith e (some (.Name x pos')) pos.line env = pure false := by intro _; rfl) : Ex1 C fr n vals (.Assign [.Name x pos'] e pos) (.next (vals.set i (.own l))) := fun hb env A S s F =>
  wpAny_Assign_Name (wpAny_mono (h hb env A S s F) (fun v s₁ ⟨S₁, x⟩ => F.storeOwn hi hnd hc x fun s'' st F' _ => ⟨S₁, st, F'⟩) fun _ _ z => z) (hs env)

theorem Ex1.iff {t : Expr} {b1 b2 : List Stmt} {pos : Pos} {c : Bool} {o : Out} (h : EvB C fr n vals t c) (h1 : c = true → Ex C fr n vals b1 o) (h2 : c = false → Ex C fr n vals b2 o) : Ex1 C fr n vals (.If t b1 b2 pos) o := fun hb env A S s F =>
  wpAny_If (wpAny_mono (h hb env A S s F) (fun c' s₁ pq => by
    obtain ⟨e, S₁, g⟩ := pq
    subst e
    cases c' with
    | true => exact wpAny_mono (h1 rfl hb env A S₁ s₁ (F.grow g)) (fun _ _ ⟨S₂, st, y⟩ => ⟨S₂, (F.stepGrow g).trans st, y⟩) fun _ _ z => z
    | false => exact wpAny_mono (h2 rfl hb env A S₁ s₁ (F.grow g)) (fun _ _ ⟨S₂, st, y⟩ => ⟨S₂, (F.stepGrow g).trans st, y⟩) fun _ _ z => z) fun _ _ z => z)

theorem Ex1.ret {e : Expr} {pos : Pos} {p : VP} (h : Ev C fr n vals e p) : Ex1 C fr n vals (.Return (some e) pos) (.ret p) := fun hb env A S s F =>
  wpAny_Return_some (wpAny_mono (h hb env A S s F) (fun _ _ ⟨S₁, g, x⟩ => ⟨S₁, F.stepGrow g, x⟩) fun _ _ z => z)
theorem Ex1.brk {pos : Pos} : Ex1 C fr n vals (.Break pos) (.brk vals) := fun _ _ _ S _ F => wpAny_Break ⟨S, .refl F.inv, F⟩
theorem Ex1.append {x : Str} {e : Expr} {np apos cpos pos : Pos} {p : VP} {l : List VP} (i : Nat) (hi : fr.names[i]? = some x) (hv : vals[i]? = some (.own l)) (h : Ev C fr n vals e p) (hsz : l.length ≤ sizeLine)
    (hbase : ∀ env, attributeBase (.Name x np) "append" env (eval (.Name x np) env) = eval (.Name x np) env := by intro _; rfl) (hline : (apos.endLine == cpos.line) = true := by rfl)
    (htr : ∀ env, starEach [e] env = [(false, eval e env)] := by intro _; rfl)
    (hd : (x == ("__debug__" : Str)) = false := by decide) (hn : (x == ("__classdict__" : Str)) = false := by decide) :
    Ex1 C fr n vals (.Expr (.Call (.Attribute (.Name x np) "append" apos) [e] [] cpos) pos) (.next (vals.set i (.own (l ++ [p])))) := fun hb env A S s F => by
  refine wpAny_Expr_any ?_ (by unfold interactive; rw [F.kind]; rfl) rfl
  have tr : backTo cpos (starEach [e] env) = [(false, eval e env)] := by rw [htr]; rfl
  refine wpAny_Call_append (hbase env) (by rw [tr]; rfl) hline tr ?_
  obtain ⟨f, hsl⟩ := F.slots
  obtain ⟨hH, nS, nb, vs, hl, hx⟩ := hsl.own hi hv
  refine wpAny_Name (hH.load F.kind hn ⟨_, _, rfl, hl.plainL, ?_⟩) hd
  refine Gives.seq (q := p) (h hb env A S s F) fun v S₁ s₁ g x => ?_
  have hsl' := hsl.grow F.inv g
  obtain ⟨hH', nS', nb', vs', hl', hx'⟩ := hsl'.own hi hv
  refine list_append_PL hl' (fun h' hp hs => ?_) (by rw [List.size_toArray, hx'.length]; exact hsz)
  have q := (F.grow g).mutate (tk := s₁.toks) (vs' := vs' ++ [v]) (l' := l ++ [p]) hsl' hi hv hl' hs (by simpa using hp) (hx'.append ⟨x, trivial⟩)
  exact ⟨S₁, (F.stepGrow g).trans q.1, q.2⟩

/-! expressions -/
theorem EvB.value {e : Expr} {p : VP} {b : Bool} (h : Ev C fr n vals e p) (ht : TruG C p b) (he : ∀ env whole, isTrue e env whole = (do let v ← whole; standAt e.pos; holding [v] (truthy v)) := by intro _ _; rfl) : EvB C fr n vals e b := fun hb env A S s F =>
  wpAny_isTrue_value (Gives.seq (q := p) (h hb env A S s F) fun v S₁ s₁ g x => wpAny_mono (ht A S₁ s₁ v g.inv (F.around.le (Nat.zero_le _)) x) (fun _ _ ⟨e, S₂, g₂⟩ => ⟨e, S₂, g.trans g₂⟩) fun _ _ z => z) (he _ _)

theorem Ev.ifexp {t e1 e2 : Expr} {pos : Pos} {c : Bool} {p : VP} (h : EvB C fr n vals t c) (h1 : c = true → Ev C fr n vals e1 p) (h2 : c = false → Ev C fr n vals e2 p) : Ev C fr n vals (.IfExp t e1 e2 pos) p := fun hb env A S s F =>
  wpAny_IfExp (wpAny_mono (h hb env A S s F) (fun c' s₁ pq => by
    obtain ⟨e, S₁, g⟩ := pq
    subst e
    cases c' with
    | true => exact wpAny_mono (h1 rfl hb env A S₁ s₁ (F.grow g)) (fun _ _ ⟨S₂, st, y⟩ => ⟨S₂, g.trans st, y⟩) fun _ _ z => z
    | false => exact wpAny_mono (h2 rfl hb env A S₁ s₁ (F.grow g)) (fun _ _ ⟨S₂, st, y⟩ => ⟨S₂, g.trans st, y⟩) fun _ _ z => z) fun _ _ z => z)

theorem Ev.and2 {x y : Expr} {pos : Pos} {a b : Bool} (hx : Ev C fr n vals x (vBool a)) (hy : a = true → Ev C fr n vals y (vBool b)) : Ev C fr n vals (.BoolOp .And [x, y] pos) (vBool (a && b)) := fun hb env A S s F =>
  wpAny_And2 (Gives.seq (q := vNone) (hx hb env A S s F) fun v S₁ s₁ g e => by
    cases (show v = .bool a from e)
    refine wpAny_truthy_bool ?_
    cases a with
    | false => exact ⟨S₁, g, rfl⟩
    | true => exact wpAny_mono (hy rfl hb env A S₁ s₁ (F.grow g)) (fun _ _ ⟨S₂, st, y⟩ => ⟨S₂, g.trans st, y⟩) fun _ _ z => z)
theorem Ev.or2 {x y : Expr} {pos : Pos} {a b : Bool} (hx : Ev C fr n vals x (vBool a)) (hy : a = false → Ev C fr n vals y (vBool b)) : Ev C fr n vals (.BoolOp .Or [x, y] pos) (vBool (a || b)) := fun hb env A S s F =>
  wpAny_Or2 (Gives.seq (q := vNone) (hx hb env A S s F) fun v S₁ s₁ g e => by
    cases (show v = .bool a from e)
    refine wpAny_truthy_bool ?_
    cases a with
    | true => exact ⟨S₁, g, rfl⟩
    | false => exact wpAny_mono (hy rfl hb env A S₁ s₁ (F.grow g)) (fun _ _ ⟨S₂, st, y⟩ => ⟨S₂, g.trans st, y⟩) fun _ _ z => z)
theorem Ev.not {x : Expr} {pos : Pos} {p : VP} {b : Bool} (h : Ev C fr n vals x p) (ht : TruG C p b) : Ev C fr n vals (.UnaryOp .Not x pos) (vBool (!b)) := fun hb env A S s F =>
  wpAny_UnaryOp (Gives.seq (q := p) (h hb env A S s F) fun v S₁ s₁ g x => not_value (wpAny_mono (ht A S₁ s₁ v g.inv (F.around.le (Nat.zero_le _)) x) (fun _ _ ⟨e, S₂, g₂⟩ => ⟨S₂, g.trans g₂, by rw [e]; rfl⟩) fun _ _ z => z))

/-! lists of expressions -/
noncomputable def EvArgs (C : Cx) (fr : Shape) (n : Nat) (vals : List Slot) (es : List Expr) (ps : List VP) : Prop :=
  (∀ env, (starEach es env).any (·.1) = false ∧ (starEach es env).length = es.length) ∧
  ∀ hb env A S s pos, FrameOk C fr n hb env A S s vals → wpAny C.M A (spliced (backTo pos (starEach es env))) (fun vs s' => ∃ S', Grow C S s S' s' ∧ All2 S' s'.heap vs ps) F0 s
theorem EvArgs.nil : EvArgs C fr n vals [] [] := ⟨fun _ => ⟨rfl, rfl⟩, fun _ _ _ S _ _ F => wpAny_items_nil ⟨S, .refl F.inv, trivial⟩⟩
theorem EvArgs.cons {e : Expr} {rest : List Expr} {p : VP} {ps : List VP} (h1 : Ev C fr n vals e p) (h2 : EvArgs C fr n vals rest ps)
    (he : ∀ env, starEach (e :: rest) env = (false, eval e env) :: starEach rest env := by intro _; rfl) : EvArgs C fr n vals (e :: rest) (p :: ps) := by
  refine ⟨fun env => ⟨?_, ?_⟩, fun hb env A S s pos F => wpAny_items_cons (Gives.seq (q := p) (h1 hb env A S s F) fun v S₁ s₁ g x => ?_) (he env)⟩
  · rw [he]; exact (h2.1 env).1
  · rw [he, List.length_cons, (h2.1 env).2, List.length_cons]
  · exact wpAny_mono (h2.2 hb env A S₁ s₁ pos (F.grow g)) (fun vs s₂ ⟨S₂, g₂, y⟩ => ⟨S₂, g.trans g₂, p.mono g₂.sub (p.keep (g₂.keeps g.inv) x), y⟩) fun _ _ z => z

theorem Ev.tuple {es : List Expr} {k : Nat} {pos : Pos} {ps : List VP} (h : EvArgs C fr n vals es ps) (hsz : ps.length ≤ sizeLine := by first | decide | (simp only [List.length_cons, List.length_nil, sizeLine_eq]; lia)) : Ev C fr n vals (.Tuple es k pos) (vTup ps) := fun hb env A S s F =>
  wpAny_Tuple (wpAny_mono (h.2 hb env A S s pos F) (fun vs s₁ ⟨S₁, g, x⟩ => ⟨by rw [x.length]; exact hsz, _, g.trans (grow_push (tk := s₁.toks) g.inv rfl), pushed_tup g.inv x⟩) fun _ _ z => z)
theorem pushed_fresh {S : ASet} {s : Shared} {vs : List Value} {l : List VP} {m tk : Nat} (I : Inv C S s) (x : All2 S s.heap vs l) :
    Fresh C S s S { s with heap := s.heap.push { cls := .type "list", data := .seq vs.toArray m }, toks := tk } (.ref s.heap.objs.size) l :=
  ⟨grow_push' I, _, vs, rfl, size_none _, (fun q => by have := I.live _ q; rw [size_none] at this; cases this), ⟨_, _, Heap.get?_push_size _ rfl, rfl, rfl, rfl, rfl⟩, x.keep fun _ _ _ e => Heap.get?_push_of_some _ e⟩
theorem Fresh.before {S S₁ S' : ASet} {s s₁ s' : Shared} {v : Value} {l : List VP} (g : Grow C S s S₁ s₁) (x : Fresh C S₁ s₁ S' s' v l) : Fresh C S s S' s' v l :=
  ⟨g.trans x.grow, let ⟨a, vs, e1, e2, r⟩ := x.is; ⟨a, vs, e1, none_of_not (fun q => by have : (s₁.heap.get? a).isSome = true := g.alive q; rw [e2] at this; cases this), r⟩⟩
theorem EvL.list {es : List Expr} {pos : Pos} {ps : List VP} (h : EvArgs C fr n vals es ps) (hsz : ps.length ≤ sizeLine := by first | decide | (simp only [List.length_cons, List.length_nil, sizeLine_eq]; lia)) : EvL C fr n vals (.List es pos) ps := fun hb env A S s F =>
  wpAny_List (wpAny_mono (h.2 hb env A S s pos F) (fun vs s₁ ⟨S₁, g, x⟩ => ⟨by rw [x.length]; exact hsz, _, (pushed_fresh (tk := s₁.toks) g.inv x).before g⟩) fun _ _ z => z)

/-! calls -/
noncomputable def FnG (C : Cx) (n : Nat) (f : Value) (ps : List VP) (r : VP) : Prop :=
  ∀ A S s vs, Inv C S s → AOk n A → All2 S s.heap vs ps → Gives C A (call f vs) S s r
noncomputable def KeepOk (C : Cx) (f : Value) : Prop := ∀ h : Heap, (∀ b o, C.base.get? b = some o → h.get? b = some o) → ∃ k, (k = Keeper.frame ∨ k = Keeper.machine ∨ k = Keeper.boundFrame) ∧ Looks C.M h (keeperOf f) k
theorem KeepOk.builtin (id : String) : KeepOk C (.builtin id) := fun _ _ => ⟨.machine, .inr (.inl rfl), Looks.of_pure rfl⟩
theorem KeepOk.type (id : String) : KeepOk C (.type id) := fun _ _ => ⟨.machine, .inr (.inl rfl), Looks.of_pure rfl⟩
theorem KeepOk.fn {a : Addr} {o : Obj} {fd : FuncData} (e : C.base.get? a = some o) (hd : o.data = .func fd) : KeepOk C (.ref a) := fun h k =>
  ⟨.frame, .inl rfl, fun A Q E s k' q => by
    unfold keeperOf
    refine wpAny_bind (wpAny_load (k' _ _ (k _ _ e)) ?_)
    rw [hd]; exact wpAny_pure q⟩

theorem evalArgs_of {f : Value} {pos : Pos} {env : Env} {A : Around} {es : List Expr} {s : Shared} {Q : Args → Shared → Prop} (hns : (starEach es env).any (·.1) = false)
    (h : wpAny C.M A (spliced (backTo pos (starEach es env))) (fun vs s₁ => Q ⟨vs, []⟩ s₁) F0 s) : wpAny C.M A (evalArgs f true (backTo pos (starEach es env)) []) Q F0 s := by
  cases hq : starEach es env with
  | nil =>
    rw [hq] at h
    unfold evalArgs
    show wpAny C.M A (spliced [] >>= _) Q F0 s
    refine wpAny_bind (wpAny_mono h (fun vs s₁ h₁ => ?_) fun _ _ z => z)
    refine wpAny_bind (wpAny_pure ?_)
    refine wpAny_holding ?_
    exact wpAny_bind (wpAny_pure (wpAny_bind (wpAny_pure (wpAny_pure h₁))))
  | cons x r =>
    rw [hq] at h hns
    obtain ⟨b, t⟩ := x
    have hb : b = false := by cases b with | false => rfl | true => simp at hns
    subst hb
    exact Calls.evalArgs_plain h

theorem callWith_g {f : Value} {first : List Value} {pos : Pos} {hb : ASet} {env : Env} {A : Around} {S : ASet} {s : Shared} {es : List Expr} {ps : List VP} {Q : Value → Shared → Prop} (F : FrameOk C fr n hb env A S s vals) (hk : KeepOk C f) (ha : EvArgs C fr n vals es ps)
    (h : ∀ S₁ s₁ vs, Grow C S s S₁ s₁ → All2 S₁ s₁.heap vs ps → wpAny C.M A (call f (first ++ vs)) Q F0 s₁) : wpAny C.M A (callWith pos f first (backTo pos (starEach es env)) []) Q F0 s := by
  have hs := (ha.1 env).1
  have hs' : (backTo pos (starEach es env)).any (·.1) = false := by
    unfold backTo
    rw [List.any_map]
    exact hs
  refine callWith_of (P := fun h => ∀ b o, C.base.get? b = some o → h.get? b = some o) (by rw [hs']; rfl) (fun h k => hk h k) (evalArgs_of hs (wpAny_mono (ha.2 hb env A S s pos F) (fun vs s₁ ⟨S₁, g, x⟩ => ⟨fun b o e => (g.inv.base b o e).1, h S₁ s₁ vs g x⟩) fun _ _ z => z))

/-- a global name -/
noncomputable def GlobIs (C : Cx) (x : Str) (v : Value) : Prop := ∃ mg, C.base.Ns mainGlobals mg ∧ (mg x = some v ∨ (mg x = none ∧ ∃ mb, C.base.Ns builtinsNs mb ∧ mb x = some v))

theorem Ev.glob {x : Str} {pos : Pos} {v : Value} (hg : GlobIs C x v) (hk : fr.scope.names.lookup x = some .globalImplicit) (hd : (x == ("__debug__" : Str)) = false := by decide) : Ev C fr n vals (.Name x pos) (vIs v) := fun hb env A S s F => by
  obtain ⟨mg, h1, h2⟩ := hg
  have k : ∀ b o, C.base.get? b = some o → s.heap.get? b = some o := fun b o e => (F.inv.base b o e).1
  have h1' : s.heap.Ns env.globals mg := by rw [F.globals]; exact h1.keeps k
  refine Calls.Name_function_global F.kind (by rw [kindOf_eq, F.scope]; exact hk) ?_ hd
  rcases h2 with h2 | ⟨h2, mb, h3, h4⟩
  · exact Calls.loadGlobal_global h1' h2 ⟨S, .refl F.inv, rfl⟩
  · exact Calls.loadGlobal_builtin h1' h2 (by rw [F.builtins]; exact h3.keeps k) h4 ⟨S, .refl F.inv, rfl⟩

theorem Ev.call {x : Str} {np pos : Pos} {es : List Expr} {f : Value} {ps : List VP} {r : VP} (hf : Ev C fr n vals (.Name x np) (vIs f)) (hk : KeepOk C f) (ha : EvArgs C fr n vals es ps) (hc : FnG C n f ps r) : Ev C fr n vals (.Call (.Name x np) es [] pos) r := fun hb env A S s F =>
  wpAny_Call_NameR (Gives.seq (q := r) (hf hb env A S s F) fun v S₁ s₁ g e => by
    cases (show v = f from e)
    exact callWith_g (F.grow g) hk ha fun S₂ s₂ vs g₂ y => wpAny_mono (hc A S₂ s₂ vs g₂.inv F.around y) (fun _ _ ⟨S₃, g₃, z⟩ => ⟨S₃, (g.trans g₂).trans g₃, z⟩) fun _ _ z => z)

end
end Mine

/-! LCall -/
namespace Mine
open PySem PySem.W PyProof.Rows

theorem cellsFrom_some : ∀ (names : List (Str × NameKind)) (k : Nat) (acc : List (Str × Addr)) (x : Str), (names.any (fun p => p.1 == x && p.2 == .cell) = true ∨ (acc.lookup x).isSome = true) → ((cellsFrom k names acc).lookup x).isSome = true
  | [], k, acc, x, h => by
    rcases h with h | h
    · simp at h
    · exact h
  | (y, kd) :: r, k, acc, x, h => by
    unfold cellsFrom
    split
    · rename_i hk
      refine cellsFrom_some r (k + 1) _ x ?_
      rcases h with h | h
      · rw [List.any_cons] at h
        rcases Bool.or_eq_true_iff.mp h with h | h
        · have := (Bool.and_eq_true_iff.mp h).1
          right
          rw [List.lookup_cons]
          have e : y = x := eq_of_beq this
          subst e
          simp
        · exact .inl h
      · right
        rw [List.lookup_cons]
        split
        · rfl
        · exact h
    · rename_i hk
      refine cellsFrom_some r k _ x ?_
      rcases h with h | h
      · rw [List.any_cons] at h
        rcases Bool.or_eq_true_iff.mp h with h | h
        · have := (Bool.and_eq_true_iff.mp h).2
          exact absurd this hk
        · exact .inl h
      · exact .inr h

section
variable {kindOf : Str → Option NameKind}
theorem bindL_out : ∀ (xs : List Str) (vs : List Value) (m : Str → Option Value) (x : Str), x ∉ xs → bindL kindOf (xs.zip vs) m x = m x
  | [], _, _, _, _ => by simp [bindL]
  | _ :: _, [], _, _, _ => by simp [bindL]
  | y :: r, v :: vs, m, x, h => by
    rw [List.zip_cons_cons, bindL, bindL_out r vs _ x (fun q => h (.tail _ q))]
    have : x ≠ y := fun q => h (q ▸ .head _)
    split
    · simp [this]
    · rfl
theorem bindC_out : ∀ (xs : List Str) (vs : List Value) (m : Str → Option Value) (x : Str), x ∉ xs → bindC kindOf (xs.zip vs) m x = m x
  | [], _, _, _, _ => by simp [bindC]
  | _ :: _, [], _, _, _ => by simp [bindC]
  | y :: r, v :: vs, m, x, h => by
    rw [List.zip_cons_cons, bindC, bindC_out r vs _ x (fun q => h (.tail _ q))]
    have : x ≠ y := fun q => h (q ▸ .head _)
    split
    · rfl
    · simp [this]
theorem bindL_in : ∀ (xs : List Str) (vs : List Value) (m : Str → Option Value), xs.Nodup → ∀ (i : Nat) (x : Str) (v : Value), xs[i]? = some x → vs[i]? = some v → kindOf x = some .local → bindL kindOf (xs.zip vs) m x = some v
  | [], _, _, _, i, _, _, e, _, _ => by simp at e
  | _ :: _, [], _, _, i, _, _, _, e, _ => by simp at e
  | y :: r, u :: vs, m, hn, i, x, v, e1, e2, hk => by
    rw [List.zip_cons_cons, bindL]
    obtain ⟨h1, h2⟩ := List.nodup_cons.mp hn
    cases i with
    | zero =>
      simp at e1 e2; subst e1 e2
      rw [bindL_out r vs _ y h1, if_pos hk]; simp
    | succ i => simp at e1 e2; exact bindL_in r vs _ h2 i x v e1 e2 hk
theorem bindC_in : ∀ (xs : List Str) (vs : List Value) (m : Str → Option Value), xs.Nodup → ∀ (i : Nat) (x : Str) (v : Value), xs[i]? = some x → vs[i]? = some v → kindOf x ≠ some .local → bindC kindOf (xs.zip vs) m x = some v
  | [], _, _, _, i, _, _, e, _, _ => by simp at e
  | _ :: _, [], _, _, i, _, _, _, e, _ => by simp at e
  | y :: r, u :: vs, m, hn, i, x, v, e1, e2, hk => by
    rw [List.zip_cons_cons, bindC]
    obtain ⟨h1, h2⟩ := List.nodup_cons.mp hn
    cases i with
    | zero =>
      simp at e1 e2; subst e1 e2
      rw [bindC_out r vs _ y h1, if_neg hk]; simp
    | succ i => simp at e1 e2; exact bindC_in r vs _ h2 i x v e1 e2 hk
end

/-- the slots at a function's start: its parameters, then names that hold nothing -/
noncomputable def startVals (ps : List VP) (k : Nat) : List Slot := ps.map .val ++ List.replicate k .un

theorem startVals_get {ps : List VP} {k i : Nat} {t : Slot} (h : (startVals ps k)[i]? = some t) : (∃ p, ps[i]? = some p ∧ t = .val p) ∨ t = .un := by
  unfold startVals at h
  rw [List.getElem?_append] at h
  split at h
  · rw [List.getElem?_map] at h
    cases e : ps[i]? with
    | none => rw [e] at h; cases h
    | some p => rw [e] at h; exact .inl ⟨p, rfl, (Option.some.inj h).symm⟩
  · exact .inr (List.eq_of_mem_replicate (List.mem_of_getElem? h))

/-- what a def of the text is -/
structure DefOk (C : Cx) (a : Addr) (fd : FuncData) (body : List Stmt) (xs : List Str) (fr : Shape) : Prop where
  at_ : ∃ o, C.base.get? a = some o ∧ o.data = .func fd
  lim : C.base.NoLimit
  code : C.base.CodeRec fd.code fd.qualname
  body : fd.body = .stmts body
  clo : fd.closure = []
  globals : fd.globals = mainGlobals
  builtins : fd.builtins = builtinsNs
  kind : fd.scope.kind = .function
  co : fd.scope.isCoroutine = false
  gen : fd.scope.isGenerator = false
  bind : ∀ vs : List Value, vs.length = xs.length → bindArgs fd ⟨vs, []⟩ = pure (xs.zip vs)
  shape : fr.scope = fd.scope
  names : fr.names.take xs.length = xs
  nodup : fr.names.Nodup
  params : ∀ x ∈ xs, fd.scope.names.lookup x = some .local ∨ (fd.scope.names.lookup x = some .cell ∧ fd.scope.names.any (fun p => p.1 == x && p.2 == .cell) = true)
  cells : ∀ x ∈ fr.cells, fd.scope.names.any (fun p => p.1 == x && p.2 == .cell) = true

/-- how a body ends, as a call sees it -/
inductive Ends : Out → VP → Prop where
  | ret (p : VP) : Ends (.ret p) p
  | next (v : List Slot) : Ends (.next v) vNone

section
variable {C : Cx} {n : Nat}

theorem code_topAt {a : Addr} {fd : FuncData} {body : List Stmt} {xs : List Str} {fr : Shape} {ps : List VP} (D : DefOk C a fd body xs fr) (hl : ps.length = xs.length) {A : Around} {S : ASet} {s : Shared} {vs : List Value} {R : Result → Shared → Prop}
    (I : Inv C S s) (hA : AOk (n + 1) A) (hx : All2 S s.heap vs ps)
    (h : ∀ env A s₁, env.code = fd.code → env.qual = fd.qualname ++ ".<locals>." → (∃ L, env.cells = cellsFrom L fd.scope.names []) → Grow C S s S s₁ → FrameOk C fr n (liveIn s.heap) env A S s₁ (startVals ps (fr.names.length - xs.length)) →
      wpAny C.M A (execs body env) (fun f s' => R (.ok (.ret (match f with | .ret v => v | _ => .none))) s') F0 s₁) : codeAny C.M A (.call (.ref a) ⟨vs, []⟩) R s := by
  obtain ⟨ob, ho, hd⟩ := D.at_
  have kb : ∀ b o, C.base.get? b = some o → s.heap.get? b = some o := fun b o e => (I.base b o e).1
  have hlen : vs.length = xs.length := hx.length.trans hl
  have hxs : xs.Nodup := by rw [← D.names]; exact D.nodup.sublist (List.take_sublist _ _)
  refine codeAny_call_cells (by have := hA.depth; lia) (kb _ _ ho) hd (D.lim.keeps kb) (D.code.keeps kb) D.body (D.bind vs hlen) D.clo (fun y hy => ?_) (fun s₁ x => ?_) D.co D.gen D.kind
  · have hy' : y.1 ∈ xs := (List.of_mem_zip (a := y.1) (b := y.2) hy).1
    exact (D.params y.1 hy').imp id fun q => ⟨q.1, cellsFrom_some _ _ _ _ (.inl q.2)⟩
  · obtain ⟨⟨⟨h', tk, rfl⟩, hns, hkeep, hfresh⟩, hcell, hap, habove⟩ := x
    have hfr0 : ∀ b, s.heap.objs.size ≤ b → s.heap.get? b = none := fun b hb => none_of_not fun q => by
      cases e : s.heap.get? b with
      | none => rw [e] at q; cases q
      | some o => exact absurd (Heap.lt_size e) (Nat.not_lt.mpr hb)
    have nS : ∀ b, s.heap.objs.size ≤ b → ¬ S b := fun b hb q => by have := I.live b q; rw [hfr0 b hb] at this; cases this
    have g : Grow C S s S { s with heap := h', toks := tk } := grow_of_kept I hkeep (fun _ h => h) fun _ h => .inl h
    have F : FrameOk C fr n (liveIn s.heap) (callEnvC fd s.heap.objs.size a) (A.deeper (callEnvC fd s.heap.objs.size a)) S { s with heap := h', toks := tk } (startVals ps (fr.names.length - xs.length)) := by
      refine ⟨g.inv, D.shape.symm, D.kind, D.globals, D.builtins, hA.deeper _, fun _ h => g.alive h, ⟨_, hns⟩, ⟨nS _ hfresh, not_live (hfr0 _ hfresh)⟩, fun y c q => ⟨_, hcell y c q⟩, fun y _ z c q q' => name_of_addr hap (mem_of_lookup q') (mem_of_lookup q), fun y hy => ?_, fun _ => 0, ?_, fun i y t hy ht => ?_, fun i j l l' hi _ _ => ?_⟩
      · obtain ⟨c, hc⟩ := Option.isSome_iff_exists.mp (cellsFrom_some fd.scope.names (s.heap.objs.size + 1) [] y (.inl (D.cells y hy)))
        have hc' : (callEnvC fd s.heap.objs.size a).cells.lookup y = some c := hc
        have hlt := habove y c (mem_of_lookup hc')
        exact ⟨c, hc', not_live (hfr0 _ (Nat.le_trans hfresh (Nat.le_of_lt hlt))), nS _ (Nat.le_trans hfresh (Nat.le_of_lt hlt))⟩
      · have : xs.length ≤ fr.names.length := by
          have := congrArg List.length D.names
          rw [List.length_take] at this; lia
        simp only [startVals, List.length_append, List.length_map, List.length_replicate]
        lia
      · rcases startVals_get ht with ⟨p, hp, rfl⟩ | rfl
        · obtain ⟨v, hv, hpv⟩ := hx.get hp
          have hi : i < xs.length := by rw [← hl]; exact (List.getElem?_eq_some_iff.mp hp).1
          have hy' : xs[i]? = some y := by rw [← D.names, List.getElem?_take_of_lt hi]; exact hy
          refine ⟨v, ?_, p.keep (fun b o _ e => hkeep b o e) hpv⟩
          rcases D.params y (List.mem_of_getElem? hy') with q | ⟨q, q'⟩
          · exact .inl ⟨q, _, hns, bindL_in xs vs _ hxs i y v hy' hv q⟩
          · obtain ⟨c, hc⟩ := Option.isSome_iff_exists.mp (cellsFrom_some fd.scope.names (s.heap.objs.size + 1) [] y (.inl q'))
            have hc' : (callEnvC fd s.heap.objs.size a).cells.lookup y = some c := hc
            refine .inr ⟨.inl q, c, hc', ?_⟩
            have z := hcell y c hc'
            rw [bindC_in xs vs _ hxs i y v hy' hv (by show fd.scope.names.lookup y ≠ _; rw [q]; decide)] at z
            exact z
        · trivial
      · rcases startVals_get hi with ⟨p, _, q⟩ | q <;> cases q
    exact wpAny_mono (h _ _ _ rfl rfl ⟨_, rfl⟩ g F) (fun _ _ y => y) fun _ _ z => z.elim

theorem FnG.topAt {a : Addr} {fd : FuncData} {body : List Stmt} {xs : List Str} {fr : Shape} {ps : List VP} {r : VP} (D : DefOk C a fd body xs fr) (hl : ps.length = xs.length)
    (h : ∀ hb env A S s, env.code = fd.code → env.qual = fd.qualname ++ ".<locals>." → (∃ L, env.cells = cellsFrom L fd.scope.names []) → FrameOk C fr n hb env A S s (startVals ps (fr.names.length - xs.length)) →
      wpAny C.M A (execs body env) (fun f s' => ∃ S', Step C hb S s S' s' ∧ r.P S' s'.heap (match f with | .ret v => v | _ => .none)) F0 s) : FnG C (n + 1) (.ref a) ps r := fun A S s vs I hA hx =>
  wpAny_call (code_topAt D hl I hA hx fun env A' s₁ h1 h2 h3 g F => wpAny_mono (h _ env A' S s₁ h1 h2 h3 F) (fun f s' ⟨S', st, y⟩ => ⟨S', Step.trans g st, y⟩) fun _ _ z => z)

theorem FnG.top {a : Addr} {fd : FuncData} {body : List Stmt} {xs : List Str} {fr : Shape} {ps : List VP} {o : Out} {r : VP} (D : DefOk C a fd body xs fr) (hl : ps.length = xs.length)
    (h : Ex C fr n (startVals ps (fr.names.length - xs.length)) body o) (he : Ends o r) : FnG C (n + 1) (.ref a) ps r :=
  FnG.topAt D hl fun hb env A S s _ _ _ F => wpAny_mono (h hb env A S s F) (fun f s' pq => by
    obtain ⟨S', st, y⟩ := pq
    cases he with
    | ret p => cases f <;> first | exact y.elim | exact ⟨S', st, y⟩
    | next v => cases f <;> first | exact y.elim | exact ⟨S', st, rfl⟩) fun _ _ z => z

end
end Mine

/-! LLoop -/
namespace Mine
open PySem PySem.W PyProof.Rows

/-- no dict, no cell, no list, no table -/
noncomputable def Foreign (h : Heap) (a : Addr) : Prop := ∃ o, h.get? a = some o ∧ o.cls ≠ .type "list" ∧ (∀ es n, o.data ≠ .dict es n) ∧ (∀ v, o.data ≠ .cell v) ∧ o.cls ≠ .none

section
variable {C : Cx} {fr : Shape} {n : Nat} {vals vals' : List Slot}

theorem Foreign.ne_ns {h : Heap} {a b : Addr} {m} (x : Foreign h a) (y : h.Ns b m) : a ≠ b := by
  rintro rfl
  obtain ⟨o, e, _, h2, _⟩ := x
  obtain ⟨o', es, ep, e', d, _⟩ := y
  rw [e] at e'; cases e'; exact h2 _ _ d
theorem Foreign.ne_cell {h : Heap} {a b : Addr} {m} (x : Foreign h a) (y : h.IsCell b m) : a ≠ b := by
  rintro rfl
  obtain ⟨o, e, _, _, h2, _⟩ := x
  obtain ⟨o', e', d⟩ := y
  rw [e] at e'; cases e'; exact h2 _ d
theorem Foreign.ne_list {h : Heap} {a b : Addr} {m} (x : Foreign h a) (y : PL h b m) : a ≠ b := by
  rintro rfl
  obtain ⟨o, e, h2, _⟩ := x
  obtain ⟨o', k, e', d, _⟩ := y
  rw [e] at e'; cases e'; exact h2 d
theorem Foreign.notab {S : ASet} {s : Shared} {a : Addr} (I : Inv C S s) (x : Foreign s.heap a) : ¬ C.isTab a := by
  rintro ⟨t, ht, rfl⟩
  obtain ⟨ps, h1, _⟩ := I.tab t ht
  obtain ⟨o, e, _, _, _, h2⟩ := x
  rw [h1] at e; cases e; exact h2 rfl
theorem Foreign.live {h : Heap} {a : Addr} (x : Foreign h a) : liveIn h a := by obtain ⟨o, e, _⟩ := x; exact live_of e

noncomputable abbrev plus (hb : ASet) (wr : List Addr) : ASet := fun a => hb a ∨ a ∈ wr

/-- the addresses wr are guarded besides -/
theorem FrameOk.protect {hb env A S s} {wr : List Addr} (F : FrameOk C fr n hb env A S s vals) (hf : ∀ a ∈ wr, Foreign s.heap a) : FrameOk C fr n (plus hb wr) env A S s vals where
  inv := F.inv
  scope := F.scope
  kind := F.kind
  globals := F.globals
  builtins := F.builtins
  around := F.around
  alive := fun b h => h.elim (F.alive b) fun q => (hf b q).live
  ns := F.ns
  locNot := ⟨F.locNot.1, fun h => h.elim F.locNot.2 fun q => let ⟨_, hm⟩ := F.ns; (hf _ q).ne_ns hm rfl⟩
  cells := F.cells
  apart := F.apart
  ownc := fun x hx => let ⟨c, e1, e2, e3⟩ := F.ownc x hx; ⟨c, e1, fun h => h.elim e2 fun q => let ⟨_, z⟩ := F.cells x c e1; (hf _ q).ne_cell z rfl, e3⟩
  slots := by
    obtain ⟨f, hl, hs, hd⟩ := F.slots
    refine ⟨f, hl, fun i x t hi ht => ?_, hd⟩
    have q := hs i x t hi ht
    cases t with
    | un => trivial
    | val p => exact q
    | own l => obtain ⟨a, b, c, vs, d, e⟩ := q; exact ⟨a, b, fun h => h.elim c fun q => (hf _ q).ne_list d rfl, vs, d, e⟩

theorem FrameOk.unprotect {hb env A S s} {wr : List Addr} (F : FrameOk C fr n (plus hb wr) env A S s vals) : FrameOk C fr n hb env A S s vals where
  inv := F.inv
  scope := F.scope
  kind := F.kind
  globals := F.globals
  builtins := F.builtins
  around := F.around
  alive := fun b h => F.alive b (.inl h)
  ns := F.ns
  locNot := ⟨F.locNot.1, fun h => F.locNot.2 (.inl h)⟩
  cells := F.cells
  apart := F.apart
  ownc := fun x hx => let ⟨c, e1, e2, e3⟩ := F.ownc x hx; ⟨c, e1, fun h => e2 (.inl h), e3⟩
  slots := by
    obtain ⟨f, hl, hs, hd⟩ := F.slots
    refine ⟨f, hl, fun i x t hi ht => ?_, hd⟩
    have q := hs i x t hi ht
    cases t with
    | un => trivial
    | val p => exact q
    | own l => obtain ⟨a, b, c, vs, d, e⟩ := q; exact ⟨a, b, fun h => c (.inl h), vs, d, e⟩

/-- all but wr stands -/
noncomputable abbrev Moves (C : Cx) (wr : List Addr) (S : ASet) (s : Shared) (S' : ASet) (s' : Shared) : Prop := Step C (fun b => liveIn s.heap b ∧ b ∉ wr) S s S' s'

theorem Moves.all {wr : List Addr} {S S' : ASet} {s s' : Shared} (x : Moves C wr S s S' s') : ∀ b o, b ∉ wr → ¬ C.isTab b → s.heap.get? b = some o → s'.heap.get? b = some o :=
  fun b o hb nt e => x.kept b o nt (.inl ⟨live_of e, hb⟩) e
theorem FrameOk.movesW {hb env A S s S' s'} {wr : List Addr} (F : FrameOk C fr n (plus hb wr) env A S s vals) (hf : ∀ a ∈ wr, Foreign s.heap a) (m : Moves C wr S s S' s') (nb : ∀ a ∈ wr, ¬ hb a) : FrameOk C fr n hb env A S' s' vals where
  inv := m.inv
  scope := F.scope
  kind := F.kind
  globals := F.globals
  builtins := F.builtins
  around := F.around
  alive := fun b h => m.alive (.inl ⟨F.alive b (.inl h), fun q => nb b q h⟩) (F.alive b (.inl h))
  ns := by
    obtain ⟨k, x⟩ := F.ns
    have nt := F.inv.notab_ns x
    have nw : env.locals ∉ wr := fun q => (hf _ q).ne_ns x rfl
    obtain ⟨o, es, ep, e1, r⟩ := x
    exact ⟨k, o, es, ep, m.all _ _ nw nt e1, r⟩
  locNot := ⟨fun q => (m.new _ q).elim F.locNot.1 (fun e => by
    obtain ⟨k, x⟩ := F.ns
    have nw : env.locals ∉ wr := fun q => (hf _ q).ne_ns x rfl
    obtain ⟨o, es, ep, e1, r⟩ := x
    exact e ⟨live_of e1, nw⟩), fun h => F.locNot.2 (.inl h)⟩
  cells := fun x c hc => by
    obtain ⟨v, y⟩ := F.cells x c hc
    have nt := F.inv.notab_cell y
    have nw : c ∉ wr := fun q => (hf _ q).ne_cell y rfl
    obtain ⟨o, e1, r⟩ := y
    exact ⟨v, o, m.all _ _ nw nt e1, r⟩
  apart := F.apart
  ownc := fun x hx => by
    obtain ⟨c, e1, e2, e3⟩ := F.ownc x hx
    obtain ⟨v, y⟩ := F.cells x c e1
    have nw : c ∉ wr := fun q => (hf _ q).ne_cell y rfl
    obtain ⟨o, e, _⟩ := y
    exact ⟨c, e1, fun h => e2 (.inl h), fun q => (m.new _ q).elim e3 fun e' => e' ⟨live_of e, nw⟩⟩
  slots := by
    obtain ⟨f, hsl⟩ := F.unprotect.slots
    refine ⟨f, hsl.move (fun y v x => ?_) m.sub (fun a o ha e => m.kept a o (F.inv.notab a ha) (.inr ha) e) fun a items nSa _ x => ?_⟩
    · rcases x with ⟨a, k, z, e⟩ | ⟨a, c, b, d⟩
      · have nt := F.inv.notab_ns z
        have nw : env.locals ∉ wr := fun q => (hf _ q).ne_ns z rfl
        obtain ⟨o, es, ep, e1, r⟩ := z
        exact .inl ⟨a, k, ⟨o, es, ep, m.all _ _ nw nt e1, r⟩, e⟩
      · have nt := F.inv.notab_cell d
        have nw : c ∉ wr := fun q => (hf _ q).ne_cell d rfl
        obtain ⟨o, e1, r⟩ := d
        exact .inr ⟨a, c, b, ⟨o, m.all _ _ nw nt e1, r⟩⟩
    · have nt := F.inv.notab_list x
      have nw : a ∉ wr := fun q => (hf _ q).ne_list x rfl
      obtain ⟨o, k, e1, r⟩ := x
      exact ⟨⟨o, k, m.all _ _ nw nt e1, r⟩, fun q => (m.new _ q).elim nSa fun e => e ⟨live_of e1, nw⟩⟩

theorem FrameOk.moves {hb env A S s S' s'} {wr : List Addr} (F : FrameOk C fr n (plus hb wr) env A S s vals) (hf : ∀ a ∈ wr, Foreign s.heap a) (m : Moves C wr S s S' s') (nb : ∀ a ∈ wr, ¬ hb a) (hf' : ∀ a ∈ wr, Foreign s'.heap a) : FrameOk C fr n (plus hb wr) env A S' s' vals :=
  (F.movesW hf m nb).protect hf'

/-! iterators -/
inductive ItOk (S : ASet) (h : Heap) (I : Addr) : List Addr → List VP → Prop where
  | list {a : Addr} {i : Nat} {vs : List Value} {l : List VP} : S a → h.IsListIter I a i → PL h a (List.toArray vs) → All2 S h (vs.drop i) l → ItOk S h I [I] l
  | range {x left step : Int} : IsRangeIter h I x left step → ItOk S h I [I] ((List.range left.toNat).map fun (k : Nat) => vInt (x + (k : Int) * step))
  | strA {x : Str} {t : Tok} {i : Nat} : h.IsStrIter I "str_ascii_iterator" x t i → ItOk S h I [I] ((x.cps.toList.drop i).map fun c => vStr ⟨#[c]⟩)
  | strW {x : Str} {t : Tok} {i : Nat} : h.IsStrIter I "str_iterator" x t i → ItOk S h I [I] ((x.cps.toList.drop i).map fun c => vStr ⟨#[c]⟩)

theorem ItOk.keep {S S' : ASet} {h h' : Heap} {I : Addr} {wr : List Addr} {l : List VP} (x : ItOk S h I wr l) (hS : ∀ a, S a → S' a) (hk : ∀ a o, S a → h.get? a = some o → h'.get? a = some o) (hw : ∀ a ∈ wr, ∀ o, h.get? a = some o → h'.get? a = some o) : ItOk S' h' I wr l := by
  cases x with
  | list a b c d =>
    refine .list (hS _ a) ?_ ?_ ((d.keep hk).mono hS)
    · obtain ⟨o, e, r⟩ := b; exact ⟨o, hw _ (.head _) _ e, r⟩
    · obtain ⟨o, k, e, r⟩ := c; exact ⟨o, k, hk _ _ a e, r⟩
  | range a => exact .range (hw _ (.head _) _ a)
  | strA a => obtain ⟨o, e, r⟩ := a; exact .strA ⟨o, hw _ (.head _) _ e, r⟩
  | strW a => obtain ⟨o, e, r⟩ := a; exact .strW ⟨o, hw _ (.head _) _ e, r⟩

theorem foreign_fields {h : Heap} {a : Addr} {o : Obj} {vs : Array Value} (e : h.get? a = some o) (hd : o.data = .fields vs) (h1 : o.cls ≠ .type "list") (h2 : o.cls ≠ .none) : Foreign h a :=
  ⟨o, e, h1, (fun _ _ q => by rw [hd] at q; cases q), (fun _ q => by rw [hd] at q; cases q), h2⟩
theorem ItOk.foreign {S : ASet} {h : Heap} {I : Addr} {wr : List Addr} {l : List VP} (x : ItOk S h I wr l) : ∀ a ∈ wr, Foreign h a := by
  cases x with
  | list a b c d =>
    obtain ⟨o, e, hc, hd⟩ := b
    intro b hb; cases List.mem_singleton.mp hb
    exact foreign_fields e hd (by rw [hc]; decide) (by rw [hc]; decide)
  | range a => intro b hb; cases List.mem_singleton.mp hb; exact foreign_fields a rfl (by simp) (by simp)
  | strA a =>
    obtain ⟨o, e, hc, hd⟩ := a
    intro b hb; cases List.mem_singleton.mp hb
    exact foreign_fields e hd (by rw [hc]; decide) (by rw [hc]; decide)
  | strW a =>
    obtain ⟨o, e, hc, hd⟩ := a
    intro b hb; cases List.mem_singleton.mp hb
    exact foreign_fields e hd (by rw [hc]; decide) (by rw [hc]; decide)

theorem moves_one {S : ASet} {s : Shared} {h' : Heap} {I : Addr} {tk : Nat} (V : Inv C S s) (hf : Foreign s.heap I) (nS : ¬ S I) (he : Heap.ExtBut I s.heap h') : Moves C [I] S s S { s with heap := h', toks := tk } := by
  have nt := hf.notab V
  refine ⟨⟨fun b o e => ⟨he b o (fun q => nS (q ▸ (V.base b o e).2)) (V.base b o e).1, (V.base b o e).2⟩, fun a ha => ?_, fun t ht => (V.tab t ht).move (fun o e => he _ _ (fun q => nt ⟨t, ht, q⟩) e) (fun _ h => h) fun a o ha e => he a o (fun q => nS (q ▸ ha)) e, V.notab, V.gens, V.os⟩,
    fun _ h => h, fun _ h => .inl h, fun b o nb h e => ?_⟩
  · obtain ⟨o, e⟩ := live_get (V.live a ha)
    exact live_of (he a o (fun q => nS (q ▸ ha)) e)
  · refine he b o (fun q => ?_) e
    subst q
    rcases h with h | h
    · exact h.2 (.head _)
    · exact nS h

/-- what may stand as a loop's target -/
noncomputable def plainTarget : Expr → Bool
  | .Name .. => true
  | .Tuple .. => true
  | _ => false
theorem letgo_val {A : Around} {tgt : Expr} {it v : Value} {s : Shared} {Q : Unit → Shared → Prop} (hv : ∀ a, v ≠ .ref a) (h : Q () s) : wpAny C.M A (letOwnedTupleGo tgt it v) Q F0 s := by
  have e : letOwnedTupleGo tgt it v = pure () := by
    cases tgt <;> first | rfl | (cases it <;> first | rfl | (cases v <;> first | rfl | exact absurd rfl (hv _)))
  rw [e]
  exact wpAny_pure h

theorem letgo_list {A : Around} {tgt : Expr} {I l : Addr} {i : Nat} {v : Value} {s : Shared} {Q : Unit → Shared → Prop} (ht : plainTarget tgt = true) (hit : s.heap.IsListIter I l i) (h : Q () s) : wpAny C.M A (letOwnedTupleGo tgt (.ref I) v) Q F0 s := by
  by_cases hv : ∃ a, v = .ref a
  · obtain ⟨a, rfl⟩ := hv
    have e : letOwnedTupleGo tgt (.ref I) (.ref a) = pure () ∨ ∃ es k p, tgt = .Tuple es k p := by
      cases tgt <;> first | exact .inl rfl | exact .inr ⟨_, _, _, rfl⟩ | cases ht
    rcases e with e | ⟨es, k, p, rfl⟩
    · rw [e]; exact wpAny_pure h
    · exact wpAny_letOwnedTupleGo_listiter hit h
  · exact letgo_val (fun a q => hv ⟨a, q⟩) h

theorem ItOk.end_ {A : Around} {S : ASet} {s : Shared} {I : Addr} {wr : List Addr} {ps : List VP} (V : Inv C S s) (hA : A.handled = none) (x : ItOk S s.heap I wr ps) (nS : ∀ a ∈ wr, ¬ S a) (hp : ps = []) :
    wpAny C.M A (pyNext (.ref I)) (fun r s' => r = none ∧ Moves C wr S s S s') F0 s := by
  have hf := x.foreign
  cases x with
  | list a b c d =>
    subst hp
    refine wpAny_pyNext_list_end hA b c.isList ?_ fun h' he => ⟨rfl, moves_one V (hf _ (.head _)) (nS _ (.head _)) he⟩
    have := d.length
    simp at this
    simp; lia
  | range a =>
    refine wpAny_pyNext_range_end hA a ?_ fun h' he => ⟨rfl, moves_one V (hf _ (.head _)) (nS _ (.head _)) he⟩
    simp at hp; lia
  | strA a =>
    refine wpAny_pyNext_ascii_end hA a ?_ fun h' he => ⟨rfl, moves_one V (hf _ (.head _)) (nS _ (.head _)) he⟩
    simp at hp
    simp [hp]
  | strW a =>
    refine wpAny_pyNext_wide_end hA a ?_ fun h' he => ⟨rfl, moves_one V (hf _ (.head _)) (nS _ (.head _)) he⟩
    simp at hp
    simp [hp]

theorem ItOk.item {A : Around} {S : ASet} {s : Shared} {I : Addr} {wr : List Addr} {ps l : List VP} {p : VP} {tgt : Expr} (V : Inv C S s) (ht : plainTarget tgt = true) (x : ItOk S s.heap I wr ps) (nS : ∀ a ∈ wr, ¬ S a) (hp : ps = p :: l) :
    wpAny C.M A (pyNext (.ref I)) (fun r s₁ => ∃ v, r = some v ∧ wpAny C.M A (letOwnedTupleGo tgt (.ref I) v) (fun _ s₂ => ∃ S', Moves C wr S s S' s₂ ∧ (∀ a ∈ wr, ¬ S' a) ∧ p.P S' s₂.heap v ∧ ItOk S' s₂.heap I wr l) F0 s₁) F0 s := by
  have hf := x.foreign
  cases x with
  | list a b c d =>
    rename_i ad i vs
    subst hp
    cases hq : vs.drop i with
    | nil => rw [hq] at d; exact d.elim
    | cons v r =>
      rw [hq] at d
      have hv : vs[i]? = some v := by
        have := List.getElem?_drop (xs := vs) (i := i) (j := 0)
        rw [hq] at this
        simpa using this.symm
      have hr : vs.drop (i + 1) = r := by rw [← List.drop_drop, hq]; rfl
      refine wpAny_pyNext_list_item b c.isList (by simpa using hv) fun h' hi hs => ⟨v, rfl, letgo_list ht hi ?_⟩
      have m := moves_one (tk := s.toks) V (hf _ (.head _)) (nS _ (.head _)) hs.extBut
      have nad : ad ≠ I := fun q => nS I (.head _) (q ▸ a)
      refine ⟨S, m, nS, p.keep (fun b o hb e => (hs.2 b (fun q => nS I (.head _) (q ▸ hb))).trans e) d.1, .list a hi (list_sameBut c hs nad) ?_⟩
      rw [hr]
      exact d.2.keep fun b o hb e => (hs.2 b (fun q => nS I (.head _) (q ▸ hb))).trans e
  | range a =>
    rename_i x left step
    have hl : 0 < left := by
      apply Decidable.byContradiction
      intro q
      have : left.toNat = 0 := by lia
      rw [this] at hp; cases hp
    refine wpAny_pyNext_range_item a hl fun h' hi hs => ⟨_, rfl, letgo_val (fun _ q => by cases q) ?_⟩
    obtain ⟨k, hk⟩ : ∃ k, left.toNat = k + 1 := ⟨left.toNat - 1, by lia⟩
    rw [hk, List.range_succ_eq_map, List.map_cons] at hp
    injection hp with hp1 hp2
    refine ⟨S, moves_one V (hf _ (.head _)) (nS _ (.head _)) hs.extBut, nS, ?_, ?_⟩
    · rw [← hp1]; exact ⟨s.toks, by simp⟩
    · have : l = (List.range (left - 1).toNat).map fun (k : Nat) => vInt (x + step + (k : Int) * step) := by
        rw [← hp2, List.map_map]
        have e : (left - 1).toNat = k := by lia
        rw [e]
        apply List.map_congr_left
        intro j _
        show vInt (x + ((j.succ : Nat) : Int) * step) = vInt (x + step + (j : Int) * step)
        congr 1
        rw [Int.natCast_succ, Int.add_mul]; lia
      rw [this]
      exact .range hi
  | strA a =>
    rename_i x t i
    cases hq : x.cps.toList.drop i with
    | nil => rw [hq] at hp; cases hp
    | cons c r =>
      rw [hq, List.map_cons] at hp
      injection hp with hp1 hp2
      have hv : x.cps[i]? = some c := by
        have := List.getElem?_drop (xs := x.cps.toList) (i := i) (j := 0)
        rw [hq] at this
        simpa using this.symm
      have hr : x.cps.toList.drop (i + 1) = r := by rw [← List.drop_drop, hq]; rfl
      refine wpAny_pyNext_ascii_item a hv fun h' hi hs => ⟨_, rfl, letgo_val (fun _ q => by cases q) ?_⟩
      refine ⟨S, moves_one V (hf _ (.head _)) (nS _ (.head _)) hs.extBut, nS, ?_, ?_⟩
      · rw [← hp1]; exact ⟨_, rfl⟩
      · rw [← hp2, ← hr]; exact .strA hi
  | strW a =>
    rename_i x t i
    cases hq : x.cps.toList.drop i with
    | nil => rw [hq] at hp; cases hp
    | cons c r =>
      rw [hq, List.map_cons] at hp
      injection hp with hp1 hp2
      have hv : x.cps[i]? = some c := by
        have := List.getElem?_drop (xs := x.cps.toList) (i := i) (j := 0)
        rw [hq] at this
        simpa using this.symm
      have hr : x.cps.toList.drop (i + 1) = r := by rw [← List.drop_drop, hq]; rfl
      refine wpAny_pyNext_wide_item a hv fun h' hi hs => ⟨_, rfl, letgo_val (fun _ q => by cases q) ?_⟩
      refine ⟨S, moves_one V (hf _ (.head _)) (nS _ (.head _)) hs.extBut, nS, ?_, ?_⟩
      · rw [← hp1]; exact ⟨_, rfl⟩
      · rw [← hp2, ← hr]; exact .strW hi

/-! what can be walked over -/
noncomputable def IterG (C : Cx) (p : VP) (items : List VP) : Prop :=
  ∀ A S s v, Inv C S s → AOk 0 A → p.P S s.heap v → wpAny C.M A (pyIter v) (fun it s' => ∃ I wr S', it = .ref I ∧ Grow C S s S' s' ∧ ItOk S' s'.heap I wr items ∧ ∀ a ∈ wr, ¬ S' a ∧ ¬ liveIn s.heap a) F0 s

theorem not_size {S : ASet} {s : Shared} (V : Inv C S s) : ¬ S s.heap.objs.size := fun q => not_live (size_none _) (V.live _ q)

theorem IterG.list {l : List VP} : IterG C (vLst l) l := fun A S s v V _ hp => by
  obtain ⟨a, vs, rfl, ha, hl, hx⟩ := hp
  refine wpAny_pyIter_list hl.isList ⟨_, [s.heap.objs.size], S, rfl, grow_push' (tk := s.toks) V, .list (i := 0) ha ⟨_, Heap.get?_push_size _ rfl, rfl, rfl⟩ (hl.keeps fun _ _ e => Heap.get?_push_of_some _ e) ?_, fun b hb => ?_⟩
  · exact hx.keep fun _ _ _ e => Heap.get?_push_of_some _ e
  · cases List.mem_singleton.mp hb
    exact ⟨not_size V, not_live (size_none _)⟩
theorem IterG.str {x : Str} : IterG C (vStr x) (x.cps.toList.map fun c => vStr ⟨#[c]⟩) := fun A S s v V _ hp => by
  obtain ⟨t, rfl⟩ := hp
  have nn : ∀ b ∈ [s.heap.objs.size], ¬ S b ∧ ¬ liveIn s.heap b := fun b hb => by
    cases List.mem_singleton.mp hb
    exact ⟨not_size V, not_live (size_none _)⟩
  cases ha : x.cps.all (· < 128) with
  | true => exact wpAny_pyIter_ascii ha ⟨_, [s.heap.objs.size], S, rfl, grow_push' (tk := s.toks) V, .strA (i := 0) ⟨_, Heap.get?_push_size _ rfl, rfl, rfl⟩, nn⟩
  | false => exact wpAny_pyIter_wide ha ⟨_, [s.heap.objs.size], S, rfl, grow_push' (tk := s.toks) V, .strW (i := 0) ⟨_, Heap.get?_push_size _ rfl, rfl, rfl⟩, nn⟩

/-! targets -/
noncomputable def Asg (C : Cx) (fr : Shape) (n : Nat) (vals : List Slot) (tgt : Expr) (p : VP) (vals' : List Slot) : Prop :=
  plainTarget tgt = true ∧ ∀ hb env A S s v, FrameOk C fr n hb env A S s vals → p.P S s.heap v → wpAny C.M A (assign tgt env v) (fun _ s' => ∃ S', Step C hb S s S' s' ∧ FrameOk C fr n hb env A S' s' vals') F0 s

theorem Asg.name {x : Str} {pos : Pos} {p : VP} (i : Nat) (hi : fr.names[i]? = some x) (hnd : fr.names.Nodup) (hc : canStore fr x = true) : Asg C fr n vals (.Name x pos) p (vals.set i (.val p)) :=
  ⟨rfl, fun hb env A S s v F hp => wpAny_assign_Name (F.store hi hnd hc hp fun s' st F' _ => ⟨S, st, F'⟩)⟩

/-- a row of names -/
inductive Names (fr : Shape) : List Slot → List Expr → List VP → List Slot → Prop where
  | nil {vals : List Slot} : Names fr vals [] [] vals
  | cons {vals vals' : List Slot} {x : Str} {pos : Pos} {es : List Expr} {p : VP} {ps : List VP} (i : Nat) (hi : fr.names[i]? = some x) (hc : canStore fr x = true) (h : Names fr (vals.set i (.val p)) es ps vals') : Names fr vals (.Name x pos :: es) (p :: ps) vals'

theorem Names.run {es : List Expr} {ps : List VP} (h : Names fr vals es ps vals') (hnd : fr.names.Nodup) : (∀ env, (assignEach es env).length = es.length ∧ (assignEach es env).findIdx? (·.1) = none) ∧ es.length = ps.length ∧
    ∀ hb env A S s vs, FrameOk C fr n hb env A S s vals → All2 S s.heap vs ps → wpAny C.M A (assignInOrder ((assignEach es env).map (·.2)) vs) (fun _ s' => ∃ S', Step C hb S s S' s' ∧ FrameOk C fr n hb env A S' s' vals') F0 s := by
  induction h with
  | nil =>
    refine ⟨fun _ => ⟨rfl, rfl⟩, rfl, fun hb env A S s vs F hx => ?_⟩
    cases vs with
    | nil => exact wpAny_assignInOrder_none ⟨S, .refl F.inv, F⟩
    | cons => exact hx.elim
  | cons i hi hc h ih =>
    rename_i x pos es p ps
    obtain ⟨i1, i2, i3⟩ := ih
    have e : ∀ env, assignEach (Expr.Name x pos :: es) env = (false, assign (Expr.Name x pos) env) :: assignEach es env := fun _ => rfl
    refine ⟨fun env => ⟨by rw [e, List.length_cons, (i1 env).1, List.length_cons], by rw [e, List.findIdx?_cons]; simp [(i1 env).2]⟩, by simp [i2], fun hb env A S s vs F hx => ?_⟩
    cases vs with
    | nil => exact hx.elim
    | cons v vs =>
      rw [e, List.map_cons]
      refine wpAny_assignInOrder_more (wpAny_assign_Name (F.store hi hnd hc hx.1 fun s' st F' _ => ?_))
      exact wpAny_mono (i3 hb env A S s' vs F' (hx.2.keep (st.keeps F.inv))) (fun _ _ ⟨S₂, st₂, F₂⟩ => ⟨S₂, st.trans st₂, F₂⟩) fun _ _ z => z

theorem Asg.tuple {es : List Expr} {k : Nat} {pos : Pos} {ps : List VP} (h : Names fr vals es ps vals') (hnd : fr.names.Nodup) : Asg C fr n vals (.Tuple es k pos) (vTup ps) vals' := by
  refine ⟨rfl, fun hb env A S s v F hp => ?_⟩
  obtain ⟨a, vs, rfl, ha, ht, hx⟩ := hp
  obtain ⟨h1, h2, h3⟩ := h.run (C := C) (n := n) hnd
  refine wpAny_assign_Tuple F.around.handled ht (by rw [(h1 env).1, h2, List.size_toArray, hx.length]) (h1 env).2 fun h' he => ?_
  have g : Grow C S s S { s with heap := h' } := grow_of_kept (tk := s.toks) F.inv (fun b o e => he b o (Nat.ne_of_lt (Heap.lt_size e)) e) (fun _ h => h) fun _ h => .inl h
  exact wpAny_mono (h3 hb env A S _ vs (F.grow g) (hx.keep (g.keeps F.inv))) (fun _ _ ⟨S₂, st₂, F₂⟩ => ⟨S₂, (F.stepGrow g).trans st₂, F₂⟩) fun _ _ z => z

/-! for -/
inductive Turns (C : Cx) (fr : Shape) (n : Nat) (tgt : Expr) (body : List Stmt) : List Slot → List VP → Out → Prop where
  | nil {vals : List Slot} : Turns C fr n tgt body vals [] (.next vals)
  | next {vals v1 v2 : List Slot} {p : VP} {rest : List VP} {o : Out} (h1 : Asg C fr n vals tgt p v1) (h2 : Ex C fr n v1 body (.next v2)) (h3 : Turns C fr n tgt body v2 rest o) : Turns C fr n tgt body vals (p :: rest) o
  | cont {vals v1 v2 : List Slot} {p : VP} {rest : List VP} {o : Out} (h1 : Asg C fr n vals tgt p v1) (h2 : Ex C fr n v1 body (.cont v2)) (h3 : Turns C fr n tgt body v2 rest o) : Turns C fr n tgt body vals (p :: rest) o
  | brk {vals v1 v2 : List Slot} {p : VP} {rest : List VP} (h1 : Asg C fr n vals tgt p v1) (h2 : Ex C fr n v1 body (.brk v2)) : Turns C fr n tgt body vals (p :: rest) (.next v2)
  | ret {vals v1 : List Slot} {p q : VP} {rest : List VP} (h1 : Asg C fr n vals tgt p v1) (h2 : Ex C fr n v1 body (.ret q)) : Turns C fr n tgt body vals (p :: rest) (.ret q)

theorem Turns.step {tgt : Expr} {body : List Stmt} {p : VP} {rest : List VP} {o : Out} (h : Turns C fr n tgt body vals (p :: rest) o) :
    ∃ v1 o1, Asg C fr n vals tgt p v1 ∧ Ex C fr n v1 body o1 ∧ ((∃ v2, (o1 = .next v2 ∨ o1 = .cont v2) ∧ Turns C fr n tgt body v2 rest o) ∨ (∃ v2, o1 = .brk v2 ∧ o = .next v2) ∨ (∃ q, o1 = .ret q ∧ o = .ret q)) := by
  cases h with
  | next h1 h2 h3 => exact ⟨_, _, h1, h2, .inl ⟨_, .inl rfl, h3⟩⟩
  | cont h1 h2 h3 => exact ⟨_, _, h1, h2, .inl ⟨_, .inr rfl, h3⟩⟩
  | brk h1 h2 => exact ⟨_, _, h1, h2, .inr (.inl ⟨_, rfl, rfl⟩)⟩
  | ret h1 h2 => exact ⟨_, _, h1, h2, .inr (.inr ⟨_, rfl, rfl⟩)⟩

/-! the turn of a loop, in its parts -/
noncomputable def fErr (C : Cx) (A : Around) (env : Env) (R : Result → Shared → Prop) : Value → Shared → Prop := notedBy C.M A env fun e s' => R (.error e) s'
noncomputable def fFlow (R : Result → Shared → Prop) (I : Nat → Shared → Prop) (k : Nat) : Flow → Shared → Prop
  | .next, s => ∃ m, m < k ∧ I m s
  | .cont, s => ∃ m, m < k ∧ I m s
  | .brk, s => R (.ok .next) s
  | .ret v, s => R (.ok (.ret v)) s
noncomputable def fBody (C : Cx) (A : Around) (body : List Stmt) (env : Env) (R : Result → Shared → Prop) (I : Nat → Shared → Prop) (k : Nat) (s : Shared) : Prop := wpAny C.M A (execs body env) (fFlow R I k) (fErr C A env R) s
noncomputable def fAsg (C : Cx) (A : Around) (tgt : Expr) (body : List Stmt) (env : Env) (R : Result → Shared → Prop) (I : Nat → Shared → Prop) (k : Nat) (v : Value) (s : Shared) : Prop := wpAny C.M A (PySem.assign tgt env v) (fun _ => fBody C A body env R I k) (fErr C A env R) s
noncomputable def fNext (C : Cx) (A : Around) (tgt : Expr) (it : Value) (body : List Stmt) (env : Env) (R : Result → Shared → Prop) (I : Nat → Shared → Prop) (k : Nat) : Option Value → Shared → Prop
  | none, s => wpAny C.M A (execs [] env) (fun f s₃ => R (.ok f) s₃) (fErr C A env R) s
  | some v, s => wpAny C.M A (letOwnedTupleGo tgt it v) (fun _ => fAsg C A tgt body env R I k v) (fErr C A env R) s
theorem forLoop_named {A : Around} {R : Result → Shared → Prop} {s : Shared} {tgt : Expr} {it : Value} {body : List Stmt} {env : Env} (I : Nat → Shared → Prop) (turn : ∀ k s, I k s → wpAny C.M A (pyNext it) (fNext C A tgt it body env R I k) (fErr C A env R) s) (k : Nat) (h : I k s) :
    codeAny C.M A (.forLoop tgt it body [] env) R s := by
  refine codeAny_forLoop_any I (fun k s hI => wpAny_mono (turn k s hI) (fun r s₁ h₁ => ?_) fun _ _ z => z) k h
  cases r with
  | none => exact h₁
  | some v => exact wpAny_mono h₁ (fun _ s₂ h₂ => wpAny_mono h₂ (fun _ s₃ h₃ => wpAny_mono h₃ (fun f s₄ h₄ => by cases f <;> exact h₄) fun _ _ z => z) fun _ _ z => z) fun _ _ z => z

/-- what a loop ends with -/
noncomputable def LPost (C : Cx) (fr : Shape) (n : Nat) (hb : ASet) (env : Env) (A : Around) (S : ASet) (s : Shared) (o : Out) : Result → Shared → Prop
  | .ok f, s' => ∃ S', Step C hb S s S' s' ∧ OutOk C fr n hb env A S' s' o f
  | .error _, _ => False
structure LMid (C : Cx) (fr : Shape) (n : Nat) (tgt : Expr) (body : List Stmt) (hb : ASet) (env : Env) (A : Around) (I : Addr) (wr : List Addr) (S : ASet) (s : Shared) (o : Out) (S' : ASet) (s' : Shared) (vals' : List Slot) (items' : List VP) : Prop where
  st : Step C hb S s S' s'
  F : FrameOk C fr n (plus hb wr) env A S' s' vals'
  hi : ItOk S' s'.heap I wr items'
  nS : ∀ a ∈ wr, ¬ S' a
  ht : Turns C fr n tgt body vals' items' o
noncomputable def LInv (C : Cx) (fr : Shape) (n : Nat) (tgt : Expr) (body : List Stmt) (hb : ASet) (env : Env) (A : Around) (I : Addr) (wr : List Addr) (S : ASet) (s : Shared) (o : Out) (k : Nat) (s' : Shared) : Prop :=
  ∃ S' vals' items', k = items'.length ∧ LMid C fr n tgt body hb env A I wr S s o S' s' vals' items'

theorem LMid.end_ {tgt : Expr} {body : List Stmt} {o : Out} {hb : ASet} {env : Env} {A : Around} {S S' : ASet} {s s' : Shared} {I : Addr} {wr : List Addr} {vals' : List Slot} {J : Nat → Shared → Prop} {k : Nat}
    (M : LMid C fr n tgt body hb env A I wr S s o S' s' vals' []) (nb : ∀ a ∈ wr, ¬ hb a) : wpAny C.M A (pyNext (.ref I)) (fNext C A tgt (.ref I) body env (LPost C fr n hb env A S s o) J k) (fErr C A env (LPost C fr n hb env A S s o)) s' := by
  refine wpAny_mono (M.hi.end_ M.F.inv M.F.around.handled M.nS rfl) (fun r s₁ h => ?_) fun _ _ z => z.elim
  have e := h.1
  have m := h.2
  subst e
  cases M.ht
  exact wpAny_execs_nil ⟨S', M.st.trans (m.weaken fun b h => ⟨M.F.alive b (.inl h), fun q => nb b q h⟩), M.F.movesW M.hi.foreign m nb⟩
theorem LMid.turn {tgt : Expr} {body : List Stmt} {o : Out} {hb : ASet} {env : Env} {A : Around} {S S' : ASet} {s s' : Shared} {I : Addr} {wr : List Addr} {vals' : List Slot} {p : VP} {rest : List VP}
    (M : LMid C fr n tgt body hb env A I wr S s o S' s' vals' (p :: rest)) (nb : ∀ a ∈ wr, ¬ hb a) :
    wpAny C.M A (pyNext (.ref I)) (fNext C A tgt (.ref I) body env (LPost C fr n hb env A S s o) (LInv C fr n tgt body hb env A I wr S s o) (rest.length + 1)) (fErr C A env (LPost C fr n hb env A S s o)) s' := by
  obtain ⟨v1, o1, h1, h2, h3⟩ := M.ht.step
  refine wpAny_mono (M.hi.item (tgt := tgt) M.F.inv h1.1 M.nS rfl) (fun r s₁ pq => ?_) fun _ _ z => z.elim
  obtain ⟨v, e, w⟩ := pq
  subst e
  refine wpAny_mono w (fun _ s₂ pq => ?_) fun _ _ z => z.elim
  obtain ⟨S₂, m, nS₂, hp, hi₂⟩ := pq
  have F₂ := M.F.moves M.hi.foreign m nb hi₂.foreign
  refine wpAny_mono (h1.2 _ env A S₂ s₂ v F₂ hp) (fun _ s₃ pq => ?_) fun _ _ z => z.elim
  obtain ⟨S₃, st₃, F₃⟩ := pq
  refine wpAny_mono (h2 _ env A S₃ s₃ F₃) (fun f s₄ pq => ?_) fun _ _ z => z.elim
  obtain ⟨S₄, st₄, y⟩ := pq
  have st24 := st₃.trans st₄
  have stAll : Step C hb S s S₄ s₄ := (M.st.trans (m.weaken fun b h => ⟨M.F.alive b (.inl h), fun q => nb b q h⟩)).trans (st24.weaken fun _ h => .inl h)
  rcases h3 with ⟨v2, h3, ht'⟩ | ⟨v2, rfl, rfl⟩ | ⟨q, rfl, rfl⟩
  · have go : FrameOk C fr n (plus hb wr) env A S₄ s₄ v2 → ∃ m, m < rest.length + 1 ∧ LInv C fr n tgt body hb env A I wr S s o m s₄ := fun y =>
      ⟨rest.length, Nat.lt_succ_self _, S₄, v2, rest, rfl, ⟨stAll, y, hi₂.keep st24.sub (st24.keeps m.inv) fun a ha o e => st24.kept a o ((hi₂.foreign a ha).notab m.inv) (.inl (.inr ha)) e, fun a ha q => (st24.new a q).elim (nS₂ a ha) fun e => e (.inr ha), ht'⟩⟩
    rcases h3 with rfl | rfl <;> (cases f <;> first | exact y.elim | exact go y)
  · cases f <;> first | exact y.elim | exact ⟨S₄, stAll, y.unprotect⟩
  · cases f <;> first | exact y.elim | exact ⟨S₄, stAll, y⟩

theorem Turns.loop {tgt : Expr} {body : List Stmt} {items : List VP} {o : Out} {hb : ASet} {env : Env} {A : Around} {S : ASet} {s : Shared} {I : Addr} {wr : List Addr} (h : Turns C fr n tgt body vals items o) (F : FrameOk C fr n (plus hb wr) env A S s vals)
    (hi : ItOk S s.heap I wr items) (nS : ∀ a ∈ wr, ¬ S a) (nb : ∀ a ∈ wr, ¬ hb a) : codeAny C.M A (.forLoop tgt (.ref I) body [] env) (LPost C fr n hb env A S s o) s := by
  refine forLoop_named (LInv C fr n tgt body hb env A I wr S s o) (fun k s' => ?_) items.length ⟨S, vals, items, rfl, ⟨.refl F.inv, F, hi, nS, h⟩⟩
  rintro ⟨S', vals', items', rfl, M⟩
  cases items' with
  | nil => exact M.end_ nb
  | cons p rest => exact M.turn nb

end
end Mine

/-! LLoop2 -/
namespace Mine
open PySem PySem.W PyProof.Rows

section
variable {C : Cx} {fr : Shape} {n : Nat} {vals vals' : List Slot}

theorem Ex1.for_ {tgt iter : Expr} {body : List Stmt} {pos : Pos} {p : VP} {items : List VP} {o : Out} (hit : Ev C fr n vals iter p) (hI : IterG C p items) (ht : Turns C fr n tgt body vals items o)
    (hs : ∀ env x, foldedSetIterable iter env x = pure x := by intro _ _; rfl) : Ex1 C fr n vals (.For tgt iter body [] pos) o := fun hb env A S s F =>
  wpAny_For (Gives.seq (q := p) (hit hb env A S s F) fun v S₁ s₁ g x =>
    wpAny_mono (hI A S₁ s₁ v g.inv (F.around.le (Nat.zero_le _)) x) (fun it s₂ pq => by
      obtain ⟨I, wr, S₂, e, g₂, hi, nn⟩ := pq
      subst e
      have F₂ := ((F.grow g).grow g₂)
      have nb : ∀ a ∈ wr, ¬ hb a := fun a ha q => (nn a ha).2 (g.alive (F.alive a q))
      refine codeAny_mono (ht.loop (F₂.protect hi.foreign) hi (fun a ha => (nn a ha).1) nb) fun r s' y => ?_
      cases r with
      | error e => exact y.elim
      | ok f =>
        obtain ⟨S', st, y⟩ := y
        exact ⟨S', ((F.stepGrow g).trans ((F.grow g).stepGrow g₂)).trans st, y⟩) fun _ _ z => z) (hs env)

/-! while -/
inductive Wh (C : Cx) (fr : Shape) (n : Nat) (test : Expr) (body : List Stmt) : Nat → List Slot → Out → Prop where
  | stop {vals : List Slot} {k : Nat} (h : EvB C fr n vals test false) : Wh C fr n test body k vals (.next vals)
  | next {vals v2 : List Slot} {o : Out} {k : Nat} (h : EvB C fr n vals test true) (h2 : Ex C fr n vals body (.next v2)) (h3 : Wh C fr n test body k v2 o) : Wh C fr n test body (k + 1) vals o
  | brk {vals v2 : List Slot} {k : Nat} (h : EvB C fr n vals test true) (h2 : Ex C fr n vals body (.brk v2)) : Wh C fr n test body k vals (.next v2)
  | ret {vals : List Slot} {k : Nat} {q : VP} (h : EvB C fr n vals test true) (h2 : Ex C fr n vals body (.ret q)) : Wh C fr n test body k vals (.ret q)


noncomputable def wInv (C : Cx) (fr : Shape) (n : Nat) (test : Expr) (body : List Stmt) (hb : ASet) (env : Env) (A : Around) (S : ASet) (s : Shared) (o : Out) (k : Nat) (s' : Shared) : Prop := ∃ S' vals', Step C hb S s S' s' ∧ FrameOk C fr n hb env A S' s' vals' ∧ Wh C fr n test body k vals' o
noncomputable def wTest (C : Cx) (A : Around) (body : List Stmt) (env : Env) (R : Result → Shared → Prop) (I : Nat → Shared → Prop) (k : Nat) : Bool → Shared → Prop
  | true, s => fBody C A body env R I k s
  | false, s => wpAny C.M A (execs [] env) (fun f s₃ => R (.ok f) s₃) (fErr C A env R) s
theorem whileLoop_named {A : Around} {R : Result → Shared → Prop} {s : Shared} {test : Expr} {body : List Stmt} {env : Env} (I : Nat → Shared → Prop) (turn : ∀ k s, I k s → wpAny C.M A (isTrue test env (eval test env)) (wTest C A body env R I k) (fErr C A env R) s) (k : Nat) (h : I k s) :
    codeAny C.M A (.whileLoop test body [] env) R s := by
  refine codeAny_whileLoop I (fun k s hI => wpAny_mono (turn k s hI) (fun b s₁ h₁ => ?_) fun _ _ z => z) k h
  cases b with
  | false => exact h₁
  | true => exact wpAny_mono h₁ (fun f s₄ h₄ => by cases f <;> exact h₄) fun _ _ z => z
theorem Wh.turn {test : Expr} {body : List Stmt} {o : Out} {k : Nat} {hb : ASet} {env : Env} {A : Around} {S S' : ASet} {s s' : Shared} (h : Wh C fr n test body k vals o) (F : FrameOk C fr n hb env A S' s' vals) (st : Step C hb S s S' s') :
    wpAny C.M A (isTrue test env (eval test env)) (wTest C A body env (LPost C fr n hb env A S s o) (wInv C fr n test body hb env A S s o) k) (fErr C A env (LPost C fr n hb env A S s o)) s' := by
  cases h with
  | stop ht =>
    refine wpAny_mono (ht hb env A S' s' F) (fun b s₁ pq => ?_) fun _ _ z => z.elim
    obtain ⟨e, S₁, g⟩ := pq
    subst e
    exact wpAny_execs_nil ⟨S₁, st.trans (F.stepGrow g), F.grow g⟩
  | next ht h2 h3 =>
    refine wpAny_mono (ht hb env A S' s' F) (fun b s₁ pq => ?_) fun _ _ z => z.elim
    obtain ⟨e, S₁, g⟩ := pq
    subst e
    refine wpAny_mono (h2 hb env A S₁ s₁ (F.grow g)) (fun f s₂ pq => ?_) fun _ _ z => z.elim
    obtain ⟨S₂, st₂, y⟩ := pq
    cases f <;> first | exact y.elim | exact ⟨_, Nat.lt_succ_self _, S₂, _, (st.trans (F.stepGrow g)).trans st₂, y, h3⟩
  | brk ht h2 =>
    refine wpAny_mono (ht hb env A S' s' F) (fun b s₁ pq => ?_) fun _ _ z => z.elim
    obtain ⟨e, S₁, g⟩ := pq
    subst e
    refine wpAny_mono (h2 hb env A S₁ s₁ (F.grow g)) (fun f s₂ pq => ?_) fun _ _ z => z.elim
    obtain ⟨S₂, st₂, y⟩ := pq
    cases f <;> first | exact y.elim | exact ⟨S₂, (st.trans (F.stepGrow g)).trans st₂, y⟩
  | ret ht h2 =>
    refine wpAny_mono (ht hb env A S' s' F) (fun b s₁ pq => ?_) fun _ _ z => z.elim
    obtain ⟨e, S₁, g⟩ := pq
    subst e
    refine wpAny_mono (h2 hb env A S₁ s₁ (F.grow g)) (fun f s₂ pq => ?_) fun _ _ z => z.elim
    obtain ⟨S₂, st₂, y⟩ := pq
    cases f <;> first | exact y.elim | exact ⟨S₂, (st.trans (F.stepGrow g)).trans st₂, y⟩
theorem Wh.loop {test : Expr} {body : List Stmt} {o : Out} {k : Nat} {hb : ASet} {env : Env} {A : Around} {S : ASet} {s : Shared} (h : Wh C fr n test body k vals o) (F : FrameOk C fr n hb env A S s vals) :
    codeAny C.M A (.whileLoop test body [] env) (LPost C fr n hb env A S s o) s :=
  whileLoop_named (wInv C fr n test body hb env A S s o) (fun _ _ ⟨_, _, st, F', h'⟩ => h'.turn F' st) k ⟨S, vals, .refl F.inv, F, h⟩

theorem Ex1.while_ {test : Expr} {body : List Stmt} {pos : Pos} {o : Out} {k : Nat} (h : Wh C fr n test body k vals o) : Ex1 C fr n vals (.While test body [] pos) o := fun hb env A S s F =>
  wpAny_While (codeAny_mono (h.loop F) fun r s' y => by
    cases r with
    | error e => exact y.elim
    | ok f => exact y)

end
end Mine

/-! LComp -/
namespace Mine
open PySem PySem.W PyProof.Rows

section
variable {C : Cx} {fr : Shape} {n : Nat} {vals vals' : List Slot}

/-- one address changes that the frame has nothing to do with -/
theorem FrameOk.sameBut {hb env A S s} {a : Addr} {h' : Heap} {tk : Nat} (F : FrameOk C fr n hb env A S s vals) (hs : Heap.SameBut a s.heap h') (nS : ¬ S a) (nt : ¬ C.isTab a) (nl : a ≠ env.locals)
    (nc : ∀ v, ¬ s.heap.IsCell a v) (no : ∀ b its, ¬ hb b → PL s.heap b its → b ≠ a) (lv : hb a → liveIn h' a) : FrameOk C fr n hb env A S { s with heap := h', toks := tk } vals := by
  have st : Step C (fun b => b ≠ a) S s S { s with heap := h', toks := tk } := step_sameBut F.inv hs nS nt (fun q => q rfl)
  have kp : ∀ b o, b ≠ a → s.heap.get? b = some o → h'.get? b = some o := fun b o hb e => (hs.2 b hb).trans e
  have cc : ∀ c v, s.heap.IsCell c v → h'.IsCell c v := fun c v z => z.sameBut hs fun q => nc v (q ▸ z)
  refine ⟨st.inv, F.scope, F.kind, F.globals, F.builtins, F.around, fun b h => ?_, ?_, F.locNot, fun x c q => let ⟨v, z⟩ := F.cells x c q; ⟨v, cc _ _ z⟩, F.apart, F.ownc, ?_⟩
  · by_cases e : b = a
    · subst e; exact lv h
    · obtain ⟨o, q⟩ := live_get (F.alive b h); exact live_of (kp b o e q)
  · obtain ⟨m, x⟩ := F.ns; exact ⟨m, x.sameBut hs (Ne.symm nl)⟩
  · obtain ⟨f, hsl⟩ := F.slots
    refine ⟨f, hsl.move (fun y v x => ?_) (fun _ h => h) (fun b o hb e => kp b o (fun q => nS (q ▸ hb)) e) fun b its nSb nb x => ⟨list_sameBut x hs (no b its nb x), nSb⟩⟩
    rcases x with ⟨q, m, z, e⟩ | ⟨q, c, b, z⟩
    · exact .inl ⟨q, m, z.sameBut hs (Ne.symm nl), e⟩
    · exact .inr ⟨q, c, b, cc _ _ z⟩

/-! the block of a comprehension -/
noncomputable def relabelS (scope ps : Scope) : Scope :=
  { scope with names := scope.names.map fun (x, k) => if (k == .free && ps.kind == .function && ps.names.lookup x == some .cell) then (x, .cell) else (x, k) }
theorem relabel_eq (scope : Scope) (env : Env) : relabel scope env = relabelS scope env.scope := rfl

noncomputable def closOf (g : Str → Addr) : List (Str × NameKind) → List (Str × Addr) → List (Str × Addr)
  | [], acc => acc
  | (x, k) :: r, acc => if k == .free then closOf g r ((x, g x) :: acc) else closOf g r acc

theorem closureFor_of {scope : Scope} {env : Env} {g : Str → Addr} (h : ∀ x, (x, NameKind.free) ∈ scope.names → env.cells.lookup x = some (g x)) : closureFor scope env = pure (closOf g scope.names []) := by
  unfold closureFor
  have key : ∀ (names : List (Str × NameKind)) (acc : List (Str × Addr)), (∀ x, (x, NameKind.free) ∈ names → env.cells.lookup x = some (g x)) →
      (forIn names acc (fun (p : Str × NameKind) (cs : List (Str × Addr)) => if (p.2 == NameKind.free) = true then (do let c ← cellOf env p.1; pure (ForInStep.yield ((p.1, c) :: cs))) else pure (ForInStep.yield cs)) : Sem (List (Str × Addr))) = pure (closOf g names acc) := by
    intro names
    induction names with
    | nil => intro acc _; rfl
    | cons p r ih =>
      intro acc hx
      obtain ⟨x, k⟩ := p
      rw [List.forIn_cons]
      by_cases hk : k = .free
      · subst hk
        have e : cellOf env x = pure (g x) := by unfold cellOf; rw [hx x (.head _)]
        simp only [beq_self_eq_true, if_true, e, closOf]
        exact ih _ fun y hy => hx y (.tail _ hy)
      · have hb : (k == NameKind.free) = false := by simpa using hk
        simp only [hb, Bool.false_eq_true, if_false, closOf]
        exact ih _ fun y hy => hx y (.tail _ hy)
  have := key scope.names [] h
  simp only [bind_pure]
  exact this

theorem closOf_mem {g : Str → Addr} : ∀ (names : List (Str × NameKind)) (acc : List (Str × Addr)) (x : Str) (c : Addr), (x, c) ∈ closOf g names acc → (x, c) ∈ acc ∨ (c = g x ∧ (x, NameKind.free) ∈ names)
  | [], acc, x, c, h => .inl h
  | (y, k) :: r, acc, x, c, h => by
    unfold closOf at h
    split at h
    · rename_i hk
      have hk : k = .free := eq_of_beq hk
      subst hk
      rcases closOf_mem r _ x c h with h | ⟨h1, h2⟩
      · rcases List.mem_cons.mp h with e | h
        · cases e; exact .inr ⟨rfl, .head _⟩
        · exact .inl h
      · exact .inr ⟨h1, .tail _ h2⟩
    · rcases closOf_mem r _ x c h with h | ⟨h1, h2⟩
      · exact .inl h
      · exact .inr ⟨h1, .tail _ h2⟩

theorem closOf_some {g : Str → Addr} : ∀ (names : List (Str × NameKind)) (acc : List (Str × Addr)) (x : Str), ((x, NameKind.free) ∈ names ∨ (acc.lookup x).isSome = true) → ((closOf g names acc).lookup x).isSome = true
  | [], acc, x, h => h.elim (fun q => nomatch q) id
  | (y, k) :: r, acc, x, h => by
    unfold closOf
    split
    · rename_i hk
      have hk : k = .free := eq_of_beq hk
      subst hk
      refine closOf_some r _ x ?_
      rcases h with h | h
      · rcases List.mem_cons.mp h with e | h
        · cases e; right; rw [List.lookup_cons]; simp
        · exact .inl h
      · right; rw [List.lookup_cons]; split
        · rfl
        · exact h
    · rename_i hk
      refine closOf_some r _ x ?_
      rcases h with h | h
      · rcases List.mem_cons.mp h with e | h
        · cases e; exact absurd rfl hk
        · exact .inl h
      · exact .inr h

theorem cellsFrom_mem : ∀ (names : List (Str × NameKind)) (k : Nat) (acc : List (Str × Addr)) (x : Str) (c : Addr), (x, c) ∈ cellsFrom k names acc → (x, c) ∈ acc ∨ (k ≤ c ∧ (x, NameKind.cell) ∈ names)
  | [], _, _, _, _, h => .inl h
  | (y, kd) :: r, k, acc, x, c, h => by
    unfold cellsFrom at h
    split at h
    · rename_i hk
      have hk : kd = .cell := eq_of_beq hk
      subst hk
      rcases cellsFrom_mem r _ _ x c h with h | ⟨h1, h2⟩
      · rcases List.mem_cons.mp h with e | h
        · cases e; exact .inr ⟨Nat.le_refl _, .head _⟩
        · exact .inl h
      · exact .inr ⟨by lia, .tail _ h2⟩
    · rcases cellsFrom_mem r _ _ x c h with h | ⟨h1, h2⟩
      · exact .inl h
      · exact .inr ⟨h1, .tail _ h2⟩


theorem cellsFrom_apart {k₀ : Nat} : ∀ (names : List (Str × NameKind)) (k : Nat) (acc : List (Str × Addr)), k₀ ≤ k → (∀ x c, (x, c) ∈ acc → c < k) → (∀ x y c, k₀ ≤ c → (x, c) ∈ acc → (y, c) ∈ acc → x = y) →
    ∀ x y c, k₀ ≤ c → (x, c) ∈ cellsFrom k names acc → (y, c) ∈ cellsFrom k names acc → x = y
  | [], _, _, _, _, h, x, y, c, hc, h1, h2 => h x y c hc h1 h2
  | (z, kd) :: r, k, acc, hk, hlt, h, x, y, c, hc, h1, h2 => by
    unfold cellsFrom at h1 h2
    split at h1
    · rename_i q
      rw [if_pos q] at h2
      refine cellsFrom_apart r (k + 1) _ (by lia) (fun x' c' hm => ?_) (fun x' y' c' hc' hm hm' => ?_) x y c hc h1 h2
      · rcases List.mem_cons.mp hm with e | hm
        · cases e; exact Nat.lt_succ_self _
        · exact Nat.lt_succ_of_lt (hlt x' c' hm)
      · rcases List.mem_cons.mp hm with e | hm <;> rcases List.mem_cons.mp hm' with e' | hm'
        · cases e; cases e'; rfl
        · cases e; exact absurd (hlt _ _ hm') (Nat.lt_irrefl _)
        · cases e'; exact absurd (hlt _ _ hm) (Nat.lt_irrefl _)
        · exact h x' y' c' hc' hm hm'
    · rename_i q
      rw [if_neg q] at h2
      exact cellsFrom_apart r k acc hk hlt h x y c hc h1 h2

/-- the cells laid stand, empty -/
theorem cellsFrom_isCell : ∀ (names : List (Str × NameKind)) (h : Heap) (acc : List (Str × Addr)) (x : Str) (c : Addr), (x, c) ∈ cellsFrom h.objs.size names acc → (x, c) ∈ acc ∨ (pushCells h names).IsCell c none
  | [], _, _, _, _, h => .inl h
  | (y, kd) :: r, hp, acc, x, c, h => by
    unfold cellsFrom at h
    unfold pushCells
    split at h
    · rename_i hk
      rw [if_pos hk]
      have e : hp.objs.size + 1 = (hp.push { cls := .type "cell", data := .cell none }).objs.size := (Heap.size_push ..).symm
      rw [e] at h
      rcases cellsFrom_isCell r _ _ x c h with h | h
      · rcases List.mem_cons.mp h with e | h
        · cases e
          exact .inr ⟨_, pushCells_keeps r _ _ _ (Heap.get?_push_size _ rfl), rfl⟩
        · exact .inl h
      · exact .inr h
    · rename_i hk
      rw [if_neg hk]
      exact cellsFrom_isCell r _ _ x c h

noncomputable def compEnv (scope : Scope) (cells : List (Str × Addr)) (L : Addr) (env : Env) : Env :=
  { scope, locals := L, globals := env.globals, cells, qual := env.qual, func := none, code := env.code, frame := env.frame, builtins := env.builtins }

theorem newCompEnv {M : Model} {A : Around} {s : Shared} {scope : Scope} {cl : List (Str × Addr)} {env : Env} {Q : Env → Shared → Prop}
    (h : Q (compEnv scope (cellsFrom (s.heap.objs.size + 1) scope.names cl) s.heap.objs.size env) { s with heap := pushCells (s.heap.push { cls := .type "dict", data := .dict #[] }) scope.names }) :
    wpAny M A (newFunctionEnv scope env.globals cl [] env.qual none .none (some env)) Q F0 s := by
  simp only [newFunctionEnv, Option.isSome_some, if_true]
  refine wpAny_bind (wpAny_alloc ?_)
  refine wpAny_bind (wpAny_layCells _ (fun name kind cells => by cases hkc : kind == NameKind.cell <;> simp [hkc]) _ _ _ _ ?_)
  rw [show ({ s with heap := s.heap.push { cls := .type "dict", data := .dict #[] } } : Shared).heap.objs.size = s.heap.objs.size + 1 from Heap.size_push ..]
  exact wpAny_bind (wpAny_pure (wpAny_pure h))

end
end Mine

/-! LComp2 -/
namespace Mine
open PySem PySem.W PyProof.Rows

section
variable {C : Cx} {fr : Shape} {n : Nat} {vals vals' : List Slot}

/-- the tests of a clause -/
noncomputable def EvIfs (C : Cx) (fr : Shape) (n : Nat) (vals : List Slot) (ifs : List Expr) (b : Bool) : Prop :=
  (ifs = [] ∧ b = true) ∨ ∃ c, ifs = [c] ∧ EvB C fr n vals c b
theorem EvIfs.none : EvIfs C fr n vals [] true := .inl ⟨rfl, rfl⟩
theorem EvIfs.one {c : Expr} {b : Bool} (h : EvB C fr n vals c b) : EvIfs C fr n vals [c] b := .inr ⟨c, rfl, h⟩

inductive CTurns (C : Cx) (fr : Shape) (n : Nat) (elt tgt : Expr) (ifs : List Expr) : List Slot → List VP → List VP → Prop where
  | nil {vals : List Slot} : CTurns C fr n elt tgt ifs vals [] []
  | keep {vals v1 : List Slot} {p q : VP} {rest l : List VP} (h1 : Asg C fr n vals tgt p v1) (h2 : EvIfs C fr n v1 ifs true) (h3 : Ev C fr n v1 elt q) (h4 : CTurns C fr n elt tgt ifs v1 rest l) : CTurns C fr n elt tgt ifs vals (p :: rest) (q :: l)
  | skip {vals v1 : List Slot} {p : VP} {rest l : List VP} (h1 : Asg C fr n vals tgt p v1) (h2 : EvIfs C fr n v1 ifs false) (h4 : CTurns C fr n elt tgt ifs v1 rest l) : CTurns C fr n elt tgt ifs vals (p :: rest) l

theorem CTurns.step {elt tgt : Expr} {ifs : List Expr} {p : VP} {rest l : List VP} (h : CTurns C fr n elt tgt ifs vals (p :: rest) l) :
    ∃ v1, Asg C fr n vals tgt p v1 ∧ ((∃ q l', l = q :: l' ∧ EvIfs C fr n v1 ifs true ∧ Ev C fr n v1 elt q ∧ CTurns C fr n elt tgt ifs v1 rest l') ∨ (EvIfs C fr n v1 ifs false ∧ CTurns C fr n elt tgt ifs v1 rest l)) := by
  cases h with
  | keep h1 h2 h3 h4 => exact ⟨_, h1, .inl ⟨_, _, rfl, h2, h3, h4⟩⟩
  | skip h1 h2 h4 => exact ⟨_, h1, .inr ⟨h2, h4⟩⟩

noncomputable def ifsOf (ifs : List Expr) (env : Env) : Sem Bool := forIn ifs true fun c r => if r = true then do let ok ← isTrue c env (eval c env); pure (ForInStep.yield ok) else pure (ForInStep.yield r)
theorem EvIfs.run {hb env A S s} {ifs : List Expr} {b : Bool} (h : EvIfs C fr n vals ifs b) (F : FrameOk C fr n hb env A S s vals) :
    wpAny C.M A (ifsOf ifs env) (fun c s' => c = b ∧ ∃ S', Grow C S s S' s') F0 s := by
  rcases h with ⟨rfl, rfl⟩ | ⟨c, rfl, h⟩
  · exact wpAny_pure ⟨rfl, S, .refl F.inv⟩
  · exact wpAny_tests_one (h hb env A S s F)

/-! the turn of a comprehension, in its parts -/
noncomputable def cEnd (I : Nat → Shared → Prop) (n : Nat) (s : Shared) : Prop := ∃ m, m < n ∧ I m s
noncomputable def cApp (C : Cx) (A : Around) (acc : Value) (I : Nat → Shared → Prop) (n : Nat) (x : Value) (s : Shared) : Prop := wpAny C.M A (call (.builtin "list.append") [acc, x]) (fun _ => cEnd I n) F0 s
noncomputable def cElt (C : Cx) (A : Around) (elt : Expr) (env : Env) (acc : Value) (I : Nat → Shared → Prop) (n : Nat) : Bool → Shared → Prop
  | true, s => wpAny C.M A (eval elt env) (cApp C A acc I n) F0 s
  | false, s => cEnd I n s
noncomputable def cIfs (C : Cx) (A : Around) (elt : Expr) (ifs : List Expr) (env : Env) (acc : Value) (I : Nat → Shared → Prop) (n : Nat) (s : Shared) : Prop := wpAny C.M A (ifsOf ifs env) (cElt C A elt env acc I n) F0 s
noncomputable def cAsg (C : Cx) (A : Around) (elt tgt : Expr) (ifs : List Expr) (env : Env) (acc : Value) (I : Nat → Shared → Prop) (n : Nat) (v : Value) (s : Shared) : Prop := wpAny C.M A (assign tgt env v) (fun _ => cIfs C A elt ifs env acc I n) F0 s
noncomputable def cNext (C : Cx) (A : Around) (elt tgt : Expr) (ifs : List Expr) (env : Env) (it acc : Value) (R : Result → Shared → Prop) (I : Nat → Shared → Prop) (n : Nat) : Option Value → Shared → Prop
  | none, s => R (.ok .next) s
  | some v, s => wpAny C.M A (letOwnedTupleGo tgt it v) (fun _ => cAsg C A elt tgt ifs env acc I n v) F0 s

theorem compLoop_any {A : Around} {R : Result → Shared → Prop} {s : Shared} {elt target iter : Expr} {ifs : List Expr} {scope : Scope} {pos : Pos} {it acc : Value} {env : Env} (I : Nat → Shared → Prop)
    (turn : ∀ n s, I n s → wpAny C.M A (pyNext it) (cNext C A elt target ifs env it acc R I n) F0 s)
    (n : Nat) (h : I n s) : codeAny C.M A (.compLoop (.ListComp elt [⟨target, iter, ifs, 0⟩] scope pos) 0 it acc env) R s := by
  refine codeAny_loop rfl I (fun n s hI => ?_) n h
  show wpAny _ A ((compTurn (.ListComp elt [⟨target, iter, ifs, 0⟩] scope pos) 0 it acc env).onRaise (fun x => do noteFrame x env; theTreesLotGoes x)) _ _ s
  refine wpAny_noted ?_
  rw [compTurn_list]
  refine wpAny_bind (wpAny_standAt (wpAny_bind (wpAny_mono (turn n s hI) (fun r s₁ h₁ => ?_) fun _ _ h' => h'.elim)))
  cases r with
  | none => exact wpAny_pure h₁
  | some v =>
    refine wpAny_bind (wpAny_mono h₁ (fun _ s₁' h₁' => ?_) fun _ _ h' => h'.elim)
    refine wpAny_bind (wpAny_mono h₁' (fun _ s₂ h₂ => wpAny_bind (wpAny_mono h₂ (fun ok s₃ h₃ => ?_) fun _ _ h' => h'.elim)) fun _ _ h' => h'.elim)
    cases ok with
    | false => exact wpAny_pure ⟨rfl, h₃⟩
    | true =>
      exact wpAny_bind (wpAny_bind (wpAny_mono h₃ (fun x s₄ h₄ => wpAny_bind (wpAny_mono h₄ (fun _ s₅ h₅ => wpAny_pure (wpAny_pure ⟨rfl, h₅⟩)) fun _ _ h' => h'.elim)) fun _ _ h' => h'.elim))

/-- what the loop of a comprehension ends with -/
noncomputable def CPost (C : Cx) (hx S : ASet) (s : Shared) (D L : Addr) (l : List VP) : Result → Shared → Prop
  | .ok _, s' => ∃ S' vs, Step C hx S s S' s' ∧ ¬ S' D ∧ PL s'.heap D (List.toArray vs) ∧ All2 S' s'.heap vs l ∧ ¬ S' L ∧ ∃ m, s'.heap.Ns L m
  | .error _, _ => False
/-- what holds ahead of each turn -/
structure CMid (C : Cx) (fr : Shape) (n : Nat) (elt tgt : Expr) (ifs : List Expr) (hx : ASet) (env : Env) (A : Around) (I D : Addr) (wr : List Addr) (S : ASet) (s : Shared) (l : List VP) (S' : ASet) (s' : Shared) (vals' : List Slot) (items' l' : List VP) (vs : List Value) (l₀ : List VP) : Prop where
  st : Step C hx S s S' s'
  F : FrameOk C fr n (plus (fun b => hx b ∨ b = D) wr) env A S' s' vals'
  hi : ItOk S' s'.heap I wr items'
  nS : ∀ a ∈ wr, ¬ S' a
  nD : ¬ S' D
  hD : PL s'.heap D (List.toArray vs)
  hvs : All2 S' s'.heap vs l₀
  hl : l = l₀ ++ l'
  ht : CTurns C fr n elt tgt ifs vals' items' l'
noncomputable def CInv (C : Cx) (fr : Shape) (n : Nat) (elt tgt : Expr) (ifs : List Expr) (hx : ASet) (env : Env) (A : Around) (I D : Addr) (wr : List Addr) (S : ASet) (s : Shared) (l : List VP) (k : Nat) (s' : Shared) : Prop :=
  ∃ S' vals' items' l' vs l₀, k = items'.length ∧ CMid C fr n elt tgt ifs hx env A I D wr S s l S' s' vals' items' l' vs l₀

theorem PL.kept {h h' : Heap} {a : Addr} {its : Array Value} (hk : ∀ o, h.get? a = some o → h'.get? a = some o) (x : PL h a its) : PL h' a its := let ⟨o, n, e, r⟩ := x; ⟨o, n, hk o e, r⟩
theorem PL.live {h : Heap} {a : Addr} {its : Array Value} (x : PL h a its) : liveIn h a := let ⟨_, _, e, _⟩ := x; live_of e
theorem CMid.end_ {elt tgt : Expr} {ifs : List Expr} {hx : ASet} {env : Env} {A : Around} {S S' : ASet} {s s' : Shared} {I D : Addr} {wr : List Addr} {l l' l₀ : List VP} {vals' : List Slot} {vs : List Value} {J : Nat → Shared → Prop} {k : Nat}
    (M : CMid C fr n elt tgt ifs hx env A I D wr S s l S' s' vals' [] l' vs l₀) (nb : ∀ a ∈ wr, ¬ hx a) : wpAny C.M A (pyNext (.ref I)) (cNext C A elt tgt ifs env (.ref I) (.ref D) (CPost C hx S s D env.locals l) J k) F0 s' := by
  have nbD : ∀ a ∈ wr, ¬ (hx a ∨ a = D) := fun a ha q => q.elim (nb a ha) fun e => (M.hi.foreign a ha).ne_list M.hD e
  have Dw : D ∉ wr := fun q => (M.hi.foreign D q).ne_list M.hD rfl
  refine wpAny_mono (M.hi.end_ M.F.inv M.F.around.handled M.nS rfl) (fun r s₁ h => ?_) fun _ _ z => z.elim
  have e := h.1
  have m := h.2
  subst e
  have hl := M.hl
  cases M.ht
  rw [List.append_nil] at hl
  subst hl
  have F₁ := M.F.movesW M.hi.foreign m nbD
  have mv : Step C hx S' s' S' s₁ := m.weaken fun b h => ⟨M.F.alive b (.inl (.inl h)), fun q => nb b q h⟩
  exact ⟨S', vs, M.st.trans mv, M.nD, PL.kept (fun o e => m.all _ _ Dw (M.F.inv.notab_list M.hD) e) M.hD, M.hvs.keep (m.keeps M.F.inv), F₁.locNot.1, F₁.ns⟩

/-- whatever the frame does by growth -/
theorem CMid.go {elt tgt : Expr} {ifs : List Expr} {hx : ASet} {env : Env} {A : Around} {S S' S₂ S₄ : ASet} {s s' s₂ s₄ : Shared} {I D : Addr} {wr : List Addr} {p : VP} {rest l l' l₀ : List VP} {vals' : List Slot} {vs : List Value}
    (M : CMid C fr n elt tgt ifs hx env A I D wr S s l S' s' vals' (p :: rest) l' vs l₀) (nb : ∀ a ∈ wr, ¬ hx a) (m : Moves C wr S' s' S₂ s₂) (nS₂ : ∀ a ∈ wr, ¬ S₂ a) (hi₂ : ItOk S₂ s₂.heap I wr rest)
    (st24 : Step C (plus (fun b => hx b ∨ b = D) wr) S₂ s₂ S₄ s₄) :
    Step C hx S s S₄ s₄ ∧ ItOk S₄ s₄.heap I wr rest ∧ (∀ a ∈ wr, ¬ S₄ a) ∧ ¬ S₄ D ∧ PL s₄.heap D (List.toArray vs) ∧ All2 S₄ s₄.heap vs l₀ := by
  have Dw : D ∉ wr := fun q => (M.hi.foreign D q).ne_list M.hD rfl
  have mv : Step C hx S' s' S₂ s₂ := m.weaken fun b h => ⟨M.F.alive b (.inl (.inl h)), fun q => nb b q h⟩
  have hD₂ : PL s₂.heap D (List.toArray vs) := PL.kept (fun o e => m.all _ _ Dw (M.F.inv.notab_list M.hD) e) M.hD
  have nD₂ : ¬ S₂ D := fun q => (m.new D q).elim M.nD fun e => e ⟨M.hD.live, Dw⟩
  have hv₂ : All2 S₂ s₂.heap vs l₀ := (M.hvs.keep (m.keeps M.F.inv)).mono m.sub
  refine ⟨(M.st.trans mv).trans (st24.weaken fun _ h => .inl (.inl h)), hi₂.keep st24.sub (st24.keeps m.inv) fun a ha o e => st24.kept a o ((hi₂.foreign a ha).notab m.inv) (.inl (.inr ha)) e, fun a ha q => (st24.new a q).elim (nS₂ a ha) fun e => e (.inr ha),
    fun q => (st24.new D q).elim nD₂ fun e => e (.inl (.inr rfl)), PL.kept (fun o e => st24.kept D o (m.inv.notab_list hD₂) (.inl (.inl (.inr rfl))) e) hD₂, (hv₂.keep (st24.keeps m.inv)).mono st24.sub⟩

/-- the item is put behind the others -/
theorem cPut {elt tgt : Expr} {ifs : List Expr} {hx : ASet} {env : Env} {A : Around} {S S₅ : ASet} {s s₅ : Shared} {I D : Addr} {wr : List Addr} {rest l l'' l₀ : List VP} {v1 : List Slot} {vs : List Value} {x : Value} {q : VP}
    (F₅ : FrameOk C fr n (plus (fun b => hx b ∨ b = D) wr) env A S₅ s₅ v1) (a1 : Step C hx S s S₅ s₅) (a2 : ItOk S₅ s₅.heap I wr rest) (a3 : ∀ a ∈ wr, ¬ S₅ a) (a4 : ¬ S₅ D) (a5 : PL s₅.heap D (List.toArray vs)) (a6 : All2 S₅ s₅.heap vs l₀)
    (nxD : ¬ hx D) (hl : l = l₀ ++ q :: l'') (hsz : l.length ≤ sizeLine) (hx₅ : q.P S₅ s₅.heap x) (h5 : CTurns C fr n elt tgt ifs v1 rest l'') :
    wpAny C.M A (call (.builtin "list.append") [.ref D, x]) (fun _ => cEnd (CInv C fr n elt tgt ifs hx env A I D wr S s l) (rest.length + 1)) F0 s₅ := by
  refine list_append_PL a5 (fun h' hp' hs' => ?_) (by
    rw [List.size_toArray, a6.length]
    have := congrArg List.length hl
    simp at this
    lia)
  have nt := F₅.inv.notab_list a5
  have st₆ : Step C hx S₅ s₅ S₅ { s₅ with heap := h' } := step_sameBut (tk := s₅.toks) F₅.inv hs' a4 nt nxD
  exact ⟨rest.length, Nat.lt_succ_self _, S₅, v1, rest, l'', vs ++ [x], l₀ ++ [q], rfl,
    { st := a1.trans st₆
      F := F₅.sameBut (tk := s₅.toks) hs' a4 nt (fun e => F₅.ns.elim fun mm z => list_ne_ns a5 z e) (fun v z => list_ne_cell a5 z rfl) (fun b its hnb _ e => hnb (e ▸ .inl (.inr rfl))) (fun _ => hp'.live)
      hi := a2.keep (fun _ h => h) (st₆.keeps F₅.inv) fun a ha o e => (hs'.2 a fun q => (a2.foreign a ha).ne_list a5 q).trans e
      nS := a3
      nD := a4
      hD := by simpa using hp'
      hvs := (a6.append (show All2 S₅ s₅.heap [x] [q] from ⟨hx₅, trivial⟩)).keep (st₆.keeps F₅.inv)
      hl := by rw [hl]; simp
      ht := h5 }⟩

theorem CMid.turn {elt tgt : Expr} {ifs : List Expr} {hx : ASet} {env : Env} {A : Around} {S S' : ASet} {s s' : Shared} {I D : Addr} {wr : List Addr} {p : VP} {rest l l' l₀ : List VP} {vals' : List Slot} {vs : List Value} {R : Result → Shared → Prop}
    (M : CMid C fr n elt tgt ifs hx env A I D wr S s l S' s' vals' (p :: rest) l' vs l₀) (nb : ∀ a ∈ wr, ¬ hx a) (nxD : ¬ hx D) (hsz : l.length ≤ sizeLine) :
    wpAny C.M A (pyNext (.ref I)) (cNext C A elt tgt ifs env (.ref I) (.ref D) R (CInv C fr n elt tgt ifs hx env A I D wr S s l) (rest.length + 1)) F0 s' := by
  have nbD : ∀ a ∈ wr, ¬ (hx a ∨ a = D) := fun a ha q => q.elim (nb a ha) fun e => (M.hi.foreign a ha).ne_list M.hD e
  obtain ⟨v1, h1, h2⟩ := M.ht.step
  refine wpAny_mono (M.hi.item (tgt := tgt) M.F.inv h1.1 M.nS rfl) (fun r s₁ pq => ?_) fun _ _ z => z.elim
  obtain ⟨v, e, w⟩ := pq
  subst e
  refine wpAny_mono w (fun _ s₂ pq => ?_) fun _ _ z => z.elim
  obtain ⟨S₂, m, nS₂, hp, hi₂⟩ := pq
  have F₂ := M.F.moves M.hi.foreign m nbD hi₂.foreign
  refine wpAny_mono (h1.2 _ env A S₂ s₂ v F₂ hp) (fun _ s₃ pq => ?_) fun _ _ z => z.elim
  obtain ⟨S₃, st₃, F₃⟩ := pq
  rcases h2 with ⟨q, l'', rfl, h3, h4, h5⟩ | ⟨h3, h5⟩
  · refine wpAny_mono (h3.run F₃) (fun ok s₄ pq => ?_) fun _ _ z => z.elim
    obtain ⟨e, S₄, g₄⟩ := pq
    subst e
    refine wpAny_mono (h4 _ env A S₄ s₄ (F₃.grow g₄)) (fun x s₅ pq => ?_) fun _ _ z => z.elim
    obtain ⟨S₅, g₅, hx₅⟩ := pq
    obtain ⟨a1, a2, a3, a4, a5, a6⟩ := M.go nb m nS₂ hi₂ (st₃.trans ((F₃.stepGrow g₄).trans ((F₃.grow g₄).stepGrow g₅)))
    exact cPut ((F₃.grow g₄).grow g₅) a1 a2 a3 a4 a5 a6 nxD M.hl hsz hx₅ h5
  · refine wpAny_mono (h3.run F₃) (fun ok s₄ pq => ?_) fun _ _ z => z.elim
    obtain ⟨e, S₄, g₄⟩ := pq
    subst e
    obtain ⟨a1, a2, a3, a4, a5, a6⟩ := M.go nb m nS₂ hi₂ (st₃.trans (F₃.stepGrow g₄))
    exact ⟨rest.length, Nat.lt_succ_self _, S₄, v1, rest, l', vs, l₀, rfl, ⟨a1, F₃.grow g₄, a2, a3, a4, a5, a6, M.hl, h5⟩⟩

/-- the loop of a comprehension: D is the list that grows -/
theorem CTurns.loop {elt tgt iter : Expr} {ifs : List Expr} {scope : Scope} {pos : Pos} {items l : List VP} {hx : ASet} {env : Env} {A : Around} {S : ASet} {s : Shared} {I D : Addr} {wr : List Addr}
    (h : CTurns C fr n elt tgt ifs vals items l) (F : FrameOk C fr n (plus (fun b => hx b ∨ b = D) wr) env A S s vals) (hi : ItOk S s.heap I wr items) (nS : ∀ a ∈ wr, ¬ S a) (nb : ∀ a ∈ wr, ¬ hx a) (nD : ¬ S D) (nxD : ¬ hx D)
    (hD : PL s.heap D #[]) (hsz : l.length ≤ sizeLine) :
    codeAny C.M A (.compLoop (.ListComp elt [⟨tgt, iter, ifs, 0⟩] scope pos) 0 (.ref I) (.ref D) env) (CPost C hx S s D env.locals l) s := by
  refine compLoop_any (CInv C fr n elt tgt ifs hx env A I D wr S s l) (fun k s' => ?_) items.length ⟨S, vals, items, l, [], [], rfl, ⟨.refl F.inv, F, hi, nS, nD, hD, trivial, rfl, h⟩⟩
  rintro ⟨S', vals', items', l', vs, l₀, rfl, M⟩
  cases items' with
  | nil => exact M.end_ nb
  | cons p rest => exact M.turn nb nxD hsz

/-- the closed facts of a comprehension's block: own its names, idx the places of what it takes from around -/
noncomputable def compShape (fr : Shape) (scope : Scope) (frC : Shape) (own : List Str) (idx : List Nat) : Bool :=
  scope.kind == .function && scope.names.all (fun x => x.2 != .local || scope.names.lookup x.1 == some .local) &&
  decide (frC.names = own ++ idx.filterMap (fr.names[·]?)) && decide frC.names.Nodup && decide (frC.scope = relabelS scope fr.scope) &&
  idx.all (fun i => match fr.names[i]? with
    | some y => scope.names.contains (y, .free) && (frC.scope.names.lookup y == some .cell || frC.scope.names.lookup y == some .free) && (fr.scope.names.lookup y == some .cell || fr.scope.names.lookup y == some .free) && !scope.names.contains (y, .cell)
    | none => false) &&
  scope.names.all (fun x => x.2 != .free || fr.cells.contains x.1 || idx.any (fun i => fr.names[i]? == some x.1)) &&
  frC.cells.all (fun x => scope.names.any (fun p => p.1 == x && p.2 == .cell) && !scope.names.contains (x, .free))

/-- the places hold these -/
noncomputable def Idx (vals : List Slot) : List Nat → List VP → Prop
  | [], [] => True
  | i :: is, q :: qs => vals[i]? = some (.val q) ∧ Idx vals is qs
  | _, _ => False

noncomputable def compVals (own : List Str) (qs : List VP) : List Slot := own.map (fun _ => .un) ++ qs.map .val

theorem Idx.get : ∀ {idx : List Nat} {qs : List VP}, Idx vals idx qs → idx.length = qs.length ∧ ∀ (j i : Nat), idx[j]? = some i → ∃ q, qs[j]? = some q ∧ vals[i]? = some (.val q)
  | [], [], _ => ⟨rfl, fun _ _ e => by simp at e⟩
  | i :: is, q :: qs, ⟨a, b⟩ => ⟨by simp [b.get.1], fun j k e => by
      cases j with
      | zero => simp at e; subst e; exact ⟨q, by simp, a⟩
      | succ j => simp at e; obtain ⟨q', h1, h2⟩ := b.get.2 j k e; exact ⟨q', by simpa using h1, h2⟩⟩
  | [], _ :: _, x => x.elim
  | _ :: _, [], x => x.elim

theorem filterMap_all {fr : Shape} : ∀ {idx : List Nat}, (∀ i ∈ idx, ∃ y, fr.names[i]? = some y) → (idx.filterMap (fr.names[·]?)).length = idx.length ∧ ∀ j : Nat, (idx.filterMap (fr.names[·]?))[j]? = idx[j]?.bind fun i => fr.names[i]?
  | [], _ => ⟨rfl, fun _ => by simp⟩
  | i :: is, h => by
    obtain ⟨y, hy⟩ := h i (.head _)
    obtain ⟨h1, h2⟩ := filterMap_all (idx := is) fun k hk => h k (.tail _ hk)
    rw [List.filterMap_cons, hy]
    refine ⟨by simp [h1], fun j => ?_⟩
    cases j with
    | zero => simp [hy]
    | succ j => simpa using h2 j

theorem comp_frame {hb env A S s} {scope : Scope} {frC : Shape} {own : List Str} {idx : List Nat} {qs : List VP} {hB : ASet} {s₃ : Shared} {S₃ : ASet} (F : FrameOk C fr n hb env A S s vals) (K : compShape fr scope frC own idx = true) (hq : Idx vals idx qs)
    (g : Grow C S s S₃ s₃) (hB1 : ∀ b, hB b → liveIn s₃.heap b) :
    closureFor scope env = pure (closOf (fun x => (env.cells.lookup x).getD 0) scope.names []) ∧
    FrameOk C frC n hB (compEnv (relabel scope env) (cellsFrom (s₃.heap.objs.size + 1) scope.names (closOf (fun x => (env.cells.lookup x).getD 0) scope.names [])) s₃.heap.objs.size env) A S₃
      { s₃ with heap := pushCells (s₃.heap.push { cls := .type "dict", data := .dict #[] }) scope.names } (compVals own qs) := by
  simp only [compShape, Bool.and_eq_true, decide_eq_true_eq] at K
  obtain ⟨⟨⟨⟨⟨⟨⟨k1, k2⟩, k3⟩, k4⟩, k5⟩, k6⟩, k7⟩, k8⟩ := K
  have k1 : scope.kind = .function := eq_of_beq k1
  have F₃ := F.grow g
  obtain ⟨f, hsl⟩ := F₃.slots
  have hidx : ∀ i ∈ idx, ∃ y, fr.names[i]? = some y ∧ (y, NameKind.free) ∈ scope.names ∧ (frC.scope.names.lookup y = some .cell ∨ frC.scope.names.lookup y = some .free) ∧ (fr.scope.names.lookup y = some .cell ∨ fr.scope.names.lookup y = some .free) ∧ (y, NameKind.cell) ∉ scope.names := fun i hi => by
    have := List.all_eq_true.mp k6 i hi
    split at this
    · rename_i y hy
      simp only [Bool.and_eq_true, Bool.or_eq_true, Bool.not_eq_true', beq_iff_eq, List.contains_iff_mem] at this
      refine ⟨y, hy, this.1.1.1, this.1.1.2, this.1.2, fun q => ?_⟩
      have h2 := this.2
      rw [← Bool.not_eq_true, List.contains_iff_mem] at h2
      exact h2 q
    · cases this
  obtain ⟨hql, hqg⟩ := hq.get
  -- a name that is taken from around has a cell there
  have cellAt : ∀ i ∈ idx, ∀ y, fr.names[i]? = some y → ∃ c v q, env.cells.lookup y = some c ∧ s₃.heap.IsCell c (some v) ∧ vals[i]? = some (.val q) ∧ q.P S₃ s₃.heap v := fun i hi y hy => by
    obtain ⟨j, hj⟩ := List.getElem?_of_mem hi
    obtain ⟨q, _, hv⟩ := hqg j i hj
    obtain ⟨v, hH, hp⟩ := hsl.2.1 i y _ hy hv
    obtain ⟨y', hy', _, _, hk, _⟩ := hidx i hi
    rw [hy] at hy'; cases hy'
    rcases hH with ⟨hl, _⟩ | ⟨_, c, e, z⟩
    · rw [kindOf_eq, F.scope] at hl
      rcases hk with hk | hk <;> rw [hk] at hl <;> cases hl
    · exact ⟨c, v, q, e, z, hv, hp⟩
  have freeCell : ∀ x, (x, NameKind.free) ∈ scope.names → ∃ c, env.cells.lookup x = some c := fun x hx => by
    have := List.all_eq_true.mp k7 _ hx
    simp only [bne_self_eq_false, Bool.false_or, Bool.or_eq_true, List.contains_iff_mem, List.any_eq_true, beq_iff_eq] at this
    rcases this with h | ⟨i, hi, hy⟩
    · obtain ⟨c, e, _⟩ := F.ownc x h; exact ⟨c, e⟩
    · obtain ⟨c, _, _, e, _⟩ := cellAt i hi x hy; exact ⟨c, e⟩
  have hcl : closureFor scope env = pure (closOf (fun x => (env.cells.lookup x).getD 0) scope.names []) := closureFor_of fun x hx => by
    obtain ⟨c, e⟩ := freeCell x hx
    rw [e]; rfl
  refine ⟨hcl, ?_⟩
  generalize hclE : closOf (fun x => (env.cells.lookup x).getD 0) scope.names [] = cl
  have clMem : ∀ x c, (x, c) ∈ cl → env.cells.lookup x = some c := fun x c hm => by
    rw [← hclE] at hm
    rcases closOf_mem _ _ _ _ hm with h | ⟨h1, h2⟩
    · cases h
    · obtain ⟨c', e⟩ := freeCell x h2
      rw [e] at h1 ⊢
      rw [h1]; rfl
  have clLive : ∀ x c, (x, c) ∈ cl → (∃ v, s₃.heap.IsCell c v) ∧ c < s₃.heap.objs.size := fun x c hm => by
    obtain ⟨v, z⟩ := F₃.cells x c (clMem x c hm)
    exact ⟨⟨v, z⟩, z.lt⟩
  have hsz1 : (s₃.heap.push { cls := .type "dict", data := .dict #[] }).objs.size = s₃.heap.objs.size + 1 := Heap.size_push ..
  have kp : ∀ b o, s₃.heap.get? b = some o → (pushCells (s₃.heap.push { cls := .type "dict", data := .dict #[] }) scope.names).get? b = some o := fun b o e => pushCells_keeps _ _ _ _ (Heap.get?_push_of_some _ e)
  have g₄ : Grow C S₃ s₃ S₃ { s₃ with heap := pushCells (s₃.heap.push { cls := .type "dict", data := .dict #[] }) scope.names } := grow_of_kept (tk := s₃.toks) g.inv kp (fun _ h => h) fun _ h => .inl h
  have big : ∀ c, s₃.heap.objs.size ≤ c → ¬ liveIn s₃.heap c := fun c hc q => by
    obtain ⟨o, e⟩ := live_get q
    exact absurd (Heap.lt_size e) (Nat.not_lt.mpr hc)
  have cellKind : ∀ x c, (x, c) ∈ cellsFrom (s₃.heap.objs.size + 1) scope.names cl → ((x, c) ∈ cl) ∨ (s₃.heap.objs.size + 1 ≤ c ∧ (x, NameKind.cell) ∈ scope.names) := fun x c h => cellsFrom_mem _ _ _ _ _ h
  have hcells : ∀ x c, (cellsFrom (s₃.heap.objs.size + 1) scope.names cl).lookup x = some c → ∃ v, (pushCells (s₃.heap.push { cls := .type "dict", data := .dict #[] }) scope.names).IsCell c v := fun x c e => by
    have hm := mem_of_lookup e
    rw [← hsz1] at hm
    rcases cellsFrom_isCell _ _ _ _ _ hm with h | h
    · obtain ⟨⟨v, z⟩, _⟩ := clLive x c h
      exact ⟨v, z.keeps kp⟩
    · exact ⟨none, h⟩
  have ownCell : ∀ x ∈ frC.cells, ∃ c, (cellsFrom (s₃.heap.objs.size + 1) scope.names cl).lookup x = some c ∧ s₃.heap.objs.size + 1 ≤ c := fun x hx => by
    have := List.all_eq_true.mp k8 x hx
    rw [Bool.and_eq_true] at this
    obtain ⟨c, hc⟩ := Option.isSome_iff_exists.mp (cellsFrom_some scope.names (s₃.heap.objs.size + 1) cl x (.inl this.1))
    refine ⟨c, hc, ?_⟩
    rcases cellKind x c (mem_of_lookup hc) with h | h
    · exfalso
      rw [← hclE] at h
      rcases closOf_mem _ _ _ _ h with h | ⟨_, h⟩
      · cases h
      · have h2 := this.2
        rw [Bool.not_eq_true', ← Bool.not_eq_true, List.contains_iff_mem] at h2
        exact h2 h
    · exact h.1
  refine ⟨g₄.inv, ?_, k1, F.globals, F.builtins, F.around, fun b h => g₄.alive (hB1 b h), ⟨_, (Heap.Ns.new s₃.heap (.type "dict")).keeps (pushCells_keeps _ _)⟩, ⟨not_size g.inv, fun q => big _ (Nat.le_refl _) (hB1 _ q)⟩, hcells, fun x hx y c e e' => ?_, fun x hx => ?_, fun _ => 0, ?_, fun j y t hy ht => ?_, fun j k l l' hj _ _ => ?_⟩
  · show relabel scope env = frC.scope
    rw [k5, relabel_eq, F.scope]
  · obtain ⟨c', e1, e2⟩ := ownCell x hx
    have e : (cellsFrom (s₃.heap.objs.size + 1) scope.names cl).lookup x = some c := e
    rw [e] at e1; cases e1
    exact cellsFrom_apart (k₀ := s₃.heap.objs.size + 1) scope.names _ cl (Nat.le_refl _) (fun x' c' hm => Nat.lt_succ_of_lt (clLive x' c' hm).2) (fun x' y' c' hc' hm _ => absurd (clLive x' c' hm).2 (Nat.not_lt.mpr (Nat.le_of_succ_le hc'))) y x c e2 (mem_of_lookup e') (mem_of_lookup e)
  · obtain ⟨c, e1, e2⟩ := ownCell x hx
    exact ⟨c, e1, fun q => big c (Nat.le_of_succ_le e2) (hB1 c q), fun q => big c (Nat.le_of_succ_le e2) (g.inv.live c q)⟩
  · rw [k3]
    have := (filterMap_all (fr := fr) (idx := idx) fun i hi => let ⟨y, hy, _⟩ := hidx i hi; ⟨y, hy⟩).1
    simp only [compVals, List.length_append, List.length_map, this, hql]
  · unfold compVals at ht
    rw [k3] at hy
    rw [List.getElem?_append] at ht hy
    rw [List.length_map] at ht
    by_cases hj : j < own.length
    · rw [if_pos hj, List.getElem?_map] at ht
      cases e : own[j]? with
      | none => rw [e] at ht; cases ht
      | some x => rw [e] at ht; cases ht; trivial
    · rw [if_neg hj, List.getElem?_map] at ht
      rw [if_neg hj, (filterMap_all (fr := fr) (idx := idx) fun i hi => let ⟨y, hy, _⟩ := hidx i hi; ⟨y, hy⟩).2] at hy
      cases e : idx[j - own.length]? with
      | none => rw [e] at hy; cases hy
      | some i =>
        rw [e] at hy
        have hy : fr.names[i]? = some y := hy
        have hi := List.mem_of_getElem? e
        obtain ⟨q, hq1, hq2⟩ := hqg _ _ e
        rw [hq1] at ht; cases ht
        obtain ⟨c, v, q', e1, z, e3, hp⟩ := cellAt i hi y hy
        rw [hq2] at e3; cases e3
        obtain ⟨y', hy', hfree, hkC, _, hnc⟩ := hidx i hi
        rw [hy] at hy'; cases hy'
        refine ⟨v, .inr ⟨hkC.imp (fun q => ?_) (fun q => ?_), c, ?_, z.keeps kp⟩, q.keep (fun b o _ e => kp b o e) hp⟩
        · show (relabel scope env).names.lookup y = _
          rw [relabel_eq, F.scope, ← k5]; exact q
        · show (relabel scope env).names.lookup y = _
          rw [relabel_eq, F.scope, ← k5]; exact q
        · have hs : (cl.lookup y).isSome = true := by rw [← hclE]; exact closOf_some _ _ _ (.inl hfree)
          obtain ⟨c', hc'⟩ := Option.isSome_iff_exists.mp (cellsFrom_some scope.names (s₃.heap.objs.size + 1) cl y (.inr hs))
          rcases cellKind y c' (mem_of_lookup hc') with h | h
          · have := clMem y c' h
            rw [e1] at this; cases this
            exact hc'
          · exact absurd h.2 hnc
  · unfold compVals at hj
    rw [List.getElem?_append, List.length_map] at hj
    split at hj
    · rw [List.getElem?_map] at hj
      cases e : own[j]? with
      | none => rw [e] at hj; cases hj
      | some x => rw [e] at hj; cases hj
    · rw [List.getElem?_map] at hj
      cases e : qs[j - own.length]? with
      | none => rw [e] at hj; cases hj
      | some x => rw [e] at hj; cases hj


theorem Grow.trans' {hx S s S₁ s₁ S₂ s₂} (g : Grow C S s S₁ s₁) (st : Step C hx S₁ s₁ S₂ s₂) (h : ∀ b, liveIn s.heap b → hx b) : Grow C S s S₂ s₂ := Step.trans g (st.weaken h)

theorem ItOk.self {A : Around} {S : ASet} {s : Shared} {I : Addr} {wr : List Addr} {l : List VP} {Q : Value → Shared → Prop} (x : ItOk S s.heap I wr l) (h : Q (.ref I) s) : wpAny C.M A (pyIter (.ref I)) Q F0 s := by
  cases x with
  | list a b c d => exact wpAny_pyIter_listiter b h
  | range a => exact wpAny_pyIter_rangeiter a h
  | strA a => exact wpAny_pyIter_striter_ascii a h
  | strW a => exact wpAny_pyIter_striter_wide a h

theorem comp_core {hb env A S s} {elt tgt iter : Expr} {ifs : List Expr} {scope : Scope} {pos cpos : Pos} {p : VP} {items l : List VP} {frC : Shape} {own : List Str} {idx : List Nat} {qs : List VP} {use : Option (Value → Sem Unit)} {Q : Value → Shared → Prop}
    (F : FrameOk C fr n hb env A S s vals) (K : compShape fr scope frC own idx = true) (hq : Idx vals idx qs) (hit : Ev C fr n vals iter p) (hI : IterG C p items) (hT : CTurns C frC n elt tgt ifs (compVals own qs) items l) (hsz : l.length ≤ sizeLine)
    (hs : ∀ env x, foldedSetIterable iter env x = pure x)
    (hfin : ∀ S' s' D L vs, Grow C S s S' s' → s.heap.get? D = none → ¬ S' D → PL s'.heap D (List.toArray vs) → All2 S' s'.heap vs l → s.heap.get? L = none → ¬ S' L → (∃ m, s'.heap.Ns L m) → compPost C.M A F0 use Q (.ref D) L (.ok .next) s') :
    wpAny C.M A (comprehension (.ListComp elt [⟨tgt, iter, ifs, 0⟩] scope pos) scope env cpos (newList []) false (eval iter env) use) Q F0 s := by
  have hcl := (comp_frame (hB := fun _ => False) F K hq (Step.refl F.inv) (fun _ h => h.elim)).1
  have K' := K
  simp only [compShape, Bool.and_eq_true, decide_eq_true_eq] at K'
  obtain ⟨⟨⟨⟨⟨⟨⟨k1, k2⟩, _⟩, _⟩, _⟩, _⟩, _⟩, _⟩ := K'
  refine wpAny_comprehension_free (g := ⟨tgt, iter, ifs, 0⟩) (gs := []) rfl (hs env) hcl (eq_of_beq k1) (fun x hx hl => ?_) (Gives.seq (q := p) (hit hb env A S s F) fun v S₁ s₁ g₁ x => ?_)
  · have := List.all_eq_true.mp k2 x hx
    rw [hl] at this
    simpa using this
  refine wpAny_mono (hI A S₁ s₁ v g₁.inv (F.around.le (Nat.zero_le _)) x) (fun it s₂ pq => ?_) fun _ _ z => z
  obtain ⟨I, wr, S₂, e, g₂, hi, nn⟩ := pq
  subst e
  refine wpAny_newList ?_ (by show 0 ≤ sizeLine; exact Nat.zero_le _)
  have g12 := g₁.trans g₂
  have g₃ : Grow C S₂ s₂ S₂ { s₂ with heap := s₂.heap.push { cls := .type "list", data := .seq ([] : List Value).toArray } } := grow_push' (tk := s₂.toks) g₂.inv
  have D₃ : PL (s₂.heap.push { cls := .type "list", data := .seq ([] : List Value).toArray }) s₂.heap.objs.size #[] := ⟨_, _, Heap.get?_push_size _ rfl, rfl, rfl, rfl, rfl⟩
  have nD1 : ¬ liveIn s₁.heap s₂.heap.objs.size := fun q => not_live (size_none _) (g₂.alive q)
  have nDs : ¬ liveIn s.heap s₂.heap.objs.size := fun q => nD1 (g₁.alive q)
  have hi₃ : ItOk S₂ (s₂.heap.push { cls := .type "list", data := .seq ([] : List Value).toArray }) I wr items := hi.keep (fun _ h => h) (fun _ _ _ e => Heap.get?_push_of_some _ e) fun _ _ _ e => Heap.get?_push_of_some _ e
  have FC := (comp_frame (hB := plus (fun b => liveIn s₁.heap b ∨ b = s₂.heap.objs.size) wr) F K hq (g12.trans g₃) (fun b h => by
    rcases h with (h | h) | h
    · exact g₃.alive (g₂.alive h)
    · subst h; obtain ⟨o, k, e, _⟩ := D₃; exact live_of e
    · exact (hi₃.foreign b h).live)).2
  refine newCompEnv ?_
  have kp : ∀ b o, (s₂.heap.push { cls := .type "list", data := .seq ([] : List Value).toArray }).get? b = some o → (pushCells ((s₂.heap.push { cls := .type "list", data := .seq ([] : List Value).toArray }).push { cls := .type "dict", data := .dict #[] }) scope.names).get? b = some o :=
    fun b o e => pushCells_keeps _ _ _ _ (Heap.get?_push_of_some _ e)
  have hi₄ := hi₃.keep (S' := S₂) (fun _ h => h) (fun _ _ _ e => kp _ _ e) fun _ _ _ e => kp _ _ e
  have g₄ : Grow C S₂ s₂ S₂ { s₂ with heap := pushCells ((s₂.heap.push { cls := .type "list", data := .seq ([] : List Value).toArray }).push { cls := .type "dict", data := .dict #[] }) scope.names } :=
    grow_of_kept (tk := s₂.toks) g₂.inv (fun b o e => kp b o (Heap.get?_push_of_some _ e)) (fun _ h => h) fun _ h => .inl h
  have loop := hT.loop (iter := iter) (scope := scope) (pos := pos) (hx := liveIn s₁.heap) FC hi₄ (fun a ha => (nn a ha).1) (fun a ha => (nn a ha).2) (not_size g₂.inv) nD1 (D₃.keeps kp) hsz
  have fin := codeAny_mono loop (R' := compPost C.M A F0 use Q (.ref s₂.heap.objs.size) ((s₂.heap.push { cls := .type "list", data := .seq ([] : List Value).toArray }).objs.size)) fun r s' y => by
    cases r with
    | error e => exact y.elim
    | ok f =>
      obtain ⟨S', vs, st, a1, a2, a3, a4, a5⟩ := y
      have G : Grow C S s S' s' := (g12.trans g₄).trans' st fun b h => g₁.alive h
      have LL := hfin S' s' s₂.heap.objs.size _ vs G (none_of_not nDs) a1 a2 a3 (none_of_not fun q => not_live (size_none _) (g₃.alive (g12.alive q))) a4 a5
      cases use <;> exact LL
  refine codeAny_compStart_list fin (wpAny_mono (Q := fun it s' => it = .ref I ∧ s' = { s₂ with heap := pushCells ((s₂.heap.push { cls := .type "list", data := .seq ([] : List Value).toArray }).push { cls := .type "dict", data := .dict #[] }) scope.names }) (hi₄.self (C := C) (A := A) (s := { s₂ with heap := pushCells ((s₂.heap.push { cls := .type "list", data := .seq ([] : List Value).toArray }).push { cls := .type "dict", data := .dict #[] }) scope.names }) ⟨rfl, rfl⟩) (fun it s' ⟨e, e'⟩ => ?_) fun _ _ z => z.elim)
  subst e e'
  exact fin


theorem EvL.comp {elt tgt iter : Expr} {ifs : List Expr} {scope : Scope} {pos : Pos} {p : VP} {items l : List VP} {frC : Shape} {own : List Str} {idx : List Nat} {qs : List VP} (K : compShape fr scope frC own idx = true) (hq : Idx vals idx qs)
    (hit : Ev C fr n vals iter p) (hI : IterG C p items) (hT : CTurns C frC n elt tgt ifs (compVals own qs) items l) (hsz : l.length ≤ sizeLine) (hs : ∀ env x, foldedSetIterable iter env x = pure x := by intro _ _; rfl) :
    EvL C fr n vals (.ListComp elt [⟨tgt, iter, ifs, 0⟩] scope pos) l := fun hb env A S s F => by
  show wpAny C.M A (eval (.ListComp elt [⟨tgt, iter, ifs, 0⟩] scope pos) env) _ _ s
  rw [eval_ListComp]
  refine comp_core (use := none) F K hq hit hI hT hsz hs fun S' s' D L vs g h0 nD hD hx hL nL hm => ?_
  obtain ⟨m, hm⟩ := hm
  refine ⟨m, hm, fun h' hs' => ⟨S', ⟨g.trans' (step_sameBut (hb := liveIn s.heap) (tk := s'.toks) g.inv hs' nL (g.inv.notab_ns hm) (not_live hL)) fun _ h => h, D, vs, rfl, h0, nD, list_sameBut hD hs' (list_ne_ns hD hm), hx.keep fun a o ha e => (hs'.2 a fun q => nL (q ▸ ha)).trans e⟩⟩⟩

/-- where the store stands inside the block's end -/
noncomputable def swapsS (fr : Shape) (t : Str) (tl cl : Nat) (scope : Scope) : Bool :=
  fr.scope.names.lookup t == some .local && tl == cl && !(scope.names.any fun (x, k) => x == t && (k == .local || k == .cell))

theorem swaps_eq {hb env A S s} {elt : Expr} {gens : List Comprehension} {scope : Scope} {pos tpos : Pos} {t : Str} {line : Nat} (F : FrameOk C fr n hb env A S s vals) :
    swapsWith (.ListComp elt gens scope pos) (some (.Name t tpos)) line env = pure (swapsS fr t tpos.line pos.line scope) := by
  have e : env.blockKind = .function := by unfold Env.blockKind; rw [F.kind]; rfl
  show (pure (env.blockKind == .function && env.kindOf t == some .local && tpos.line == pos.line && !(scope.names.any fun (n, k) => n == t && (k == .local || k == .cell))) : Sem Bool) = _
  rw [e, kindOf_eq, F.scope]
  rfl

/-- what the store does behind a comprehension: t tells the slot -/
theorem Ex1.assignCompOwn {x : Str} {pos' spos : Pos} {elt tgt iter : Expr} {ifs : List Expr} {scope : Scope} {pos : Pos} {p : VP} {items l : List VP} {frC : Shape} {own : List Str} {idx : List Nat} {qs : List VP} (i : Nat) (hi : fr.names[i]? = some x) (hnd : fr.names.Nodup) (hc : canStore fr x = true)
    (K : compShape fr scope frC own idx = true) (hq : Idx vals idx qs) (hit : Ev C fr n vals iter p) (hI : IterG C p items) (hT : CTurns C frC n elt tgt ifs (compVals own qs) items l) (hsz : l.length ≤ sizeLine) (hs : ∀ env x, foldedSetIterable iter env x = pure x := by intro _ _; rfl) :
    Ex1 C fr n vals (.Assign [.Name x pos'] (.ListComp elt [⟨tgt, iter, ifs, 0⟩] scope pos) spos) (.next (vals.set i (.own l))) := fun hb env A S s F => by
  have sw := swaps_eq (elt := elt) (gens := [⟨tgt, iter, ifs, 0⟩]) (scope := scope) (pos := pos) (tpos := pos') (t := x) (line := spos.line) F
  cases hsw : swapsS fr x pos'.line pos.line scope with
  | false =>
    rw [hsw] at sw
    exact wpAny_Assign_Name (wpAny_mono (EvL.comp K hq hit hI hT hsz hs hb env A S s F) (fun v s₁ ⟨S₁, y⟩ => F.storeOwn hi hnd hc y fun s'' st F' _ => ⟨S₁, st, F'⟩) fun _ _ z => z) sw
  | true =>
    rw [hsw] at sw
    rw [exec_Assign_Name_used _ _ _ _ sw]
    refine wpAny_bind (wpAny_standAt (wpAny_bind ?_))
    show wpAny _ A (do let _ ← comprehension (.ListComp elt [⟨tgt, iter, ifs, 0⟩] scope pos) scope env _ (newList []) false (eval iter env) (some (PySem.assign (.Name x pos') env))) _ _ s
    refine wpAny_bind (wpAny_mono (comp_core (use := some (PySem.assign (.Name x pos') env)) (Q := fun _ s' => ∃ S', Step C hb S s S' s' ∧ FrameOk C fr n hb env A S' s' (vals.set i (.own l))) F K hq hit hI hT hsz hs fun S' s' D L vs g h0 nD hD hx hL nL hm => ?_) (fun _ s' y => wpAny_pure (wpAny_pure y)) fun _ _ z => z)
    obtain ⟨m, hm⟩ := hm
    show wpAny _ A (PySem.assign (.Name x pos') env (.ref D)) _ _ _
    refine wpAny_assign_Name (F.storeOwn hi hnd hc ⟨g, D, vs, rfl, h0, nD, hD, hx⟩ fun s'' st F' sa => ?_)
    have hL' : env.locals ≠ L := by
      rintro rfl
      obtain ⟨_, o, _, _, ho, _⟩ := F.ns
      rw [hL] at ho; cases ho
    obtain ⟨a, hsa, ha⟩ := sa
    have naL : L ≠ a := by
      rintro rfl
      rcases ha with q | ⟨y, q⟩
      · exact hL' q.symm
      · obtain ⟨v, z⟩ := (F.grow g).cells y L q
        exact ns_ne_cell hm z rfl
    have hm'' := hm.sameBut hsa naL
    refine ⟨m, hm'', fun h' hs' => ⟨S', st.trans (step_sameBut (tk := s''.toks) F'.inv hs' nL (F'.inv.notab_ns hm'') fun q => not_live hL (F.alive L q)), ?_⟩⟩
    exact F'.sameBut (tk := s''.toks) hs' nL (F'.inv.notab_ns hm'') (Ne.symm hL') (fun v z => ns_ne_cell hm'' z rfl) (fun b its _ z => list_ne_ns z hm'') fun q => absurd (F.alive L q) (not_live hL)

end
end Mine

/-! LVal -/
namespace Mine
open PySem PySem.W PyProof.Rows

/-- a text, by its signs -/
noncomputable def vS (l : List Nat) : VP := vStr ⟨l.toArray⟩
theorem str_of {l : List Nat} {S : ASet} {h : Heap} {v : Value} (x : (vS l).P S h v) : ∃ t, v = .str ⟨l.toArray⟩ t := x
theorem int_of {i : Int} {S : ASet} {h : Heap} {v : Value} (x : (vInt i).P S h v) : ∃ t, v = .int i t := x

section
variable {C : Cx} {fr : Shape} {n : Nat} {vals vals' : List Slot}

theorem Ev.s {x : Str} {k : Nat} {pos : Pos} (l : List Nat) (h : x = ⟨l.toArray⟩) : Ev C fr n vals (.Constant (.str x) k pos) (vS l) := by subst h; exact Ev.str

/-! ints -/
theorem BinG.add {a b : Int} : BinG C .Add (vInt a) (vInt b) (vInt (a + b)) := fun A S s x y I _ hx hy => by
  obtain ⟨t, rfl⟩ := int_of hx; obtain ⟨u, rfl⟩ := int_of hy
  exact P.add_int ⟨S, Grow.tok I _, _, rfl⟩
theorem BinG.sub {a b : Int} : BinG C .Sub (vInt a) (vInt b) (vInt (a - b)) := fun A S s x y I _ hx hy => by
  obtain ⟨t, rfl⟩ := int_of hx; obtain ⟨u, rfl⟩ := int_of hy
  exact P.sub_int ⟨S, Grow.tok I _, _, rfl⟩
theorem intBits_le {a : Int} (h : a.natAbs < 2 ^ 40) : Builtin.Int.intBits a ≤ 64 := by
  unfold Builtin.Int.intBits
  split
  · lia
  · have : a.natAbs.log2 < 40 := (Nat.log2_lt (by simp_all)).mpr h
    lia
theorem BinG.mul {a b : Int} (ha : a.natAbs < 2 ^ 40) : BinG C .Mult (vInt a) (vInt b) (vInt (a * b)) := fun A S s x y I _ hx hy => by
  obtain ⟨t, rfl⟩ := int_of hx; obtain ⟨u, rfl⟩ := int_of hy
  exact P.mul_int ⟨S, Grow.tok I _, _, rfl⟩ (.of_left (intBits_le ha))
theorem BinG.div {a b : Int} (hb : 0 < b) (hs : b < 1073741824) : BinG C .FloorDiv (vInt a) (vInt b) (vInt (a / b)) := fun A S s x y I _ hx hy => by
  obtain ⟨t, rfl⟩ := int_of hx; obtain ⟨u, rfl⟩ := int_of hy
  refine floordiv_int (by lia) ?_ (.inl (PyProof.noPylong_small (by lia)))
  rw [Int.fdiv_eq_ediv_of_nonneg _ (by lia)]
  exact ⟨S, Grow.tok I _, _, rfl⟩
theorem BinG.mod {a b : Int} (hb : 0 < b) : BinG C .Mod (vInt a) (vInt b) (vInt (a % b)) := fun A S s x y I _ hx hy => by
  obtain ⟨t, rfl⟩ := int_of hx; obtain ⟨u, rfl⟩ := int_of hy
  refine mod_int' (by lia) ?_
  rw [Int.fmod_eq_emod_of_nonneg _ (by lia)]
  exact ⟨S, Grow.tok I _, _, rfl⟩

theorem CmpG.lt {a b : Int} : CmpG C .Lt (vInt a) (vInt b) (decide (a < b)) := fun A S s x y I _ hx hy => by
  obtain ⟨t, rfl⟩ := int_of hx; obtain ⟨u, rfl⟩ := int_of hy
  exact P.lt_int ⟨S, .refl I, rfl⟩
theorem CmpG.le {a b : Int} : CmpG C .LtE (vInt a) (vInt b) (decide (a ≤ b)) := fun A S s x y I _ hx hy => by
  obtain ⟨t, rfl⟩ := int_of hx; obtain ⟨u, rfl⟩ := int_of hy
  exact P.le_int ⟨S, .refl I, rfl⟩
theorem CmpG.ge {a b : Int} : CmpG C .GtE (vInt a) (vInt b) (decide (a ≥ b)) := fun A S s x y I _ hx hy => by
  obtain ⟨t, rfl⟩ := int_of hx; obtain ⟨u, rfl⟩ := int_of hy
  exact P.ge_int ⟨S, .refl I, rfl⟩
theorem CmpG.eqI {a b : Int} : CmpG C .Eq (vInt a) (vInt b) (decide (a = b)) := fun A S s x y I _ hx hy => by
  obtain ⟨t, rfl⟩ := int_of hx; obtain ⟨u, rfl⟩ := int_of hy
  exact P.eq_int ⟨S, .refl I, rfl⟩
/-! texts -/
theorem CmpG.eqS {a b : List Nat} : CmpG C .Eq (vS a) (vS b) (decide (a = b)) := fun A S s x y I _ hx hy => by
  obtain ⟨t, rfl⟩ := str_of hx; obtain ⟨u, rfl⟩ := str_of hy
  refine P.eq_str ⟨S, .refl I, ?_⟩
  show Value.bool (a == b) = Value.bool (decide (a = b))
  congr 1
  by_cases h : a = b <;> simp [h]
theorem BinG.addS {a b : List Nat} (hsz : a.length + b.length ≤ sizeLine) : BinG C .Add (vS a) (vS b) (vS (a ++ b)) := fun A S s x y I _ hx hy => by
  obtain ⟨t, rfl⟩ := str_of hx; obtain ⟨u, rfl⟩ := str_of hy
  refine P.add_str ?_
  split
  · rename_i h
    have h : a = [] := by simpa [Str.length] using h
    subst h
    exact ⟨S, .refl I, u, rfl⟩
  · split
    · rename_i h
      have h : b = [] := by simpa [Str.length] using h
      subst h
      exact ⟨S, .refl I, t, by simp⟩
    · refine ⟨?_, S, Grow.tok I _, s.toks, ?_⟩
      · show (Str.length _) ≤ _
        rw [Str.length_append]; simpa [Str.length] using hsz
      · show Value.str (⟨a.toArray⟩ ++ ⟨b.toArray⟩) _ = Value.str ⟨(a ++ b).toArray⟩ _
        congr 1
        apply Str.ext'
        simp [Str.cps_append]

/-! is None -/
theorem CmpG.isNone : CmpG C .Is vNone vNone true := fun A S s x y I _ hx hy => by
  cases (show x = .none from hx); cases (show y = .none from hy)
  exact is_none ⟨S, .refl I, rfl⟩
/-- a kind that is never None -/
noncomputable def VP.NotNone (p : VP) : Prop := ∀ S h v, p.P S h v → v ≠ .none
theorem CmpG.isNone' {p : VP} (hp : p.NotNone) : CmpG C .Is p vNone false := fun A S s x y I _ hx hy => by
  cases (show y = .none from hy)
  refine is_none ⟨S, .refl I, ?_⟩
  show Value.bool (x == .none) = _
  rw [show (x == Value.none) = false from beq_eq_false_iff_ne.mpr (hp _ _ _ hx)]
/-! data compared -/
noncomputable def VP.Reads (p : VP) (d : PyData) : Prop := ∀ S h v, p.P S h v → ∃ as, PySem.Reads h v d as
theorem reads_int (i : Int) : (vInt i).Reads (.int i) := fun _ _ _ ⟨_, e⟩ => by cases e; exact ⟨_, .int _ _⟩
theorem reads_S (l : List Nat) : (vS l).Reads (.str ⟨l.toArray⟩) := fun _ _ _ ⟨_, e⟩ => by cases e; exact ⟨_, .str _ _⟩
noncomputable def ReadsL : List VP → List PyData → Prop
  | [], [] => True
  | p :: ps, d :: ds => p.Reads d ∧ ReadsL ps ds
  | _, _ => False
theorem ReadsL.all {S : ASet} {h : Heap} : ∀ {ps : List VP} {ds : List PyData} {vs : List Value}, ReadsL ps ds → All2 S h vs ps → ∃ as, ReadsAll h vs ds as
  | [], [], [], _, _ => ⟨_, .nil⟩
  | p :: ps, d :: ds, v :: vs, ⟨a, b⟩, ⟨x, y⟩ => by
    obtain ⟨as, r⟩ := a _ _ _ x
    obtain ⟨bs, q⟩ := b.all y
    exact ⟨_, .cons r q⟩
  | [], [], _ :: _, _, x => x.elim
  | _ :: _, _ :: _, [], _, x => x.elim
  | [], _ :: _, _, x, _ => x.elim
  | _ :: _, [], _, x, _ => x.elim
theorem reads_tup {ps : List VP} {ds : List PyData} (h : ReadsL ps ds) : (vTup ps).Reads (.tuple ds) := fun S hp v pq => by
  obtain ⟨a, vs, e, _, ⟨o, ho, hc, k, hd⟩, hx⟩ := pq
  obtain ⟨as, r⟩ := h.all hx
  subst e
  exact ⟨_, .tuple ho hc hd (by simpa using r)⟩
theorem reads_lst {ps : List VP} {ds : List PyData} (h : ReadsL ps ds) : (vLst ps).Reads (.list ds) := fun S hp v pq => by
  obtain ⟨a, vs, e, _, ⟨o, k, ho, hc, _, hd, _⟩, hx⟩ := pq
  obtain ⟨as, r⟩ := h.all hx
  subst e
  exact ⟨_, .list ho hc hd (by simpa using r)⟩
theorem readsL_map {α : Type} (f : α → VP) (g : α → PyData) (h : ∀ a, (f a).Reads (g a)) : ∀ l : List α, ReadsL (l.map f) (l.map g)
  | [] => trivial
  | a :: l => ⟨h a, readsL_map f g h l⟩

theorem CmpG.eqD {p q : VP} {d e : PyData} (hp : p.Reads d) (hq : q.Reads e) (hd : SeqAt.shaped d = true) (he : SeqAt.shaped e = true) : CmpG C .Eq p q (PyData.eqv d e) := fun A S s x y I hA hx hy => by
  obtain ⟨as, ra⟩ := hp _ _ _ hx
  obtain ⟨bs, rb⟩ := hq _ _ _ hy
  exact SeqAt.compareEq_shaped ra rb hd he (by have := hA.units; lia) ⟨S, .refl I, rfl⟩
theorem CmpG.neD {p q : VP} {d e : PyData} (hp : p.Reads d) (hq : q.Reads e) (hd : SeqAt.shaped d = true) (he : SeqAt.shaped e = true) : CmpG C .NotEq p q (!PyData.eqv d e) := fun A S s x y I hA hx hy => by
  obtain ⟨as, ra⟩ := hp _ _ _ hx
  obtain ⟨bs, rb⟩ := hq _ _ _ hy
  exact SeqAt.compareNe_shaped ra rb hd he (by have := hA.units; lia) ⟨S, .refl I, rfl⟩

end
end Mine

/-! LStr -/
namespace Mine
open PySem PySem.W PyProof.Rows

/-! a text cut at a sign -/
noncomputable def splitOn (c : Nat) : List Nat → List (List Nat)
  | [] => [[]]
  | x :: r => if x = c then [] :: splitOn c r else match splitOn c r with
    | [] => [[x]]
    | p :: ps => (x :: p) :: ps
noncomputable def joinOn (c : Nat) : List (List Nat) → List Nat
  | [] => []
  | [p] => p
  | p :: q :: ps => p ++ c :: joinOn c (q :: ps)

theorem splitOn_ne (c : Nat) : ∀ l, splitOn c l ≠ []
  | [] => by simp [splitOn]
  | x :: r => by
    unfold splitOn
    split
    · simp
    · split <;> simp
theorem splitOn_free {c : Nat} : ∀ {p : List Nat}, c ∉ p → splitOn c p = [p]
  | [], _ => rfl
  | x :: r, h => by
    have hx : x ≠ c := fun e => h (e ▸ .head _)
    unfold splitOn
    rw [if_neg hx, splitOn_free (p := r) fun q => h (.tail _ q)]
theorem splitOn_append {c : Nat} : ∀ {p : List Nat} (r : List Nat), c ∉ p → splitOn c (p ++ c :: r) = p :: splitOn c r
  | [], r, _ => by simp [splitOn]
  | x :: p, r, h => by
    have hx : x ≠ c := fun e => h (e ▸ .head _)
    rw [List.cons_append, splitOn, if_neg hx, splitOn_append r fun q => h (.tail _ q)]
theorem splitOn_joinOn {c : Nat} : ∀ {L : List (List Nat)}, L ≠ [] → (∀ p ∈ L, c ∉ p) → splitOn c (joinOn c L) = L
  | [], h, _ => absurd rfl h
  | [p], _, h => splitOn_free (h p (.head _))
  | p :: q :: ps, _, h => by
    rw [joinOn, splitOn_append _ (h p (.head _)), splitOn_joinOn (by simp) fun x hx => h x (.tail _ hx)]
theorem splitOn_length (c : Nat) : ∀ l, (splitOn c l).length ≤ l.length + 1
  | [] => by simp [splitOn]
  | x :: r => by
    have ih := splitOn_length c r
    unfold splitOn
    split
    · simp; lia
    · split
      · simp
      · rename_i p ps e
        rw [e] at ih
        simp at ih ⊢; lia

theorem cps_join (c : Nat) : ∀ (L : List Str), (Str.join ⟨#[c]⟩ L).cps.toList = joinOn c (L.map fun x => x.cps.toList)
  | [] => by
    show Str.empty.cps.toList = []
    rfl
  | [x] => rfl
  | x :: y :: r => by
    show (x ++ ⟨#[c]⟩ ++ Str.join ⟨#[c]⟩ (y :: r)).cps.toList = _
    rw [Str.cps_append, Str.cps_append]
    have ih := cps_join c (y :: r)
    simp only [Array.toList_append, ih, List.map_cons, joinOn]
    simp

theorem split_eq (c : Nat) (l : List Nat) : (Txt.split ⟨l.toArray⟩ ⟨#[c]⟩).map (fun x => x.cps.toList) = splitOn c l := by
  have h1 := StrLaws.join_split ⟨l.toArray⟩ ⟨#[c]⟩
  have h2 := StrLaws.split_free ⟨l.toArray⟩ c
  have h3 := cps_join c (Txt.split ⟨l.toArray⟩ ⟨#[c]⟩)
  rw [h1] at h3
  have h3 : l = joinOn c ((Txt.split ⟨l.toArray⟩ ⟨#[c]⟩).map fun x => x.cps.toList) := by simpa using h3
  have hne : (Txt.split ⟨l.toArray⟩ ⟨#[c]⟩).map (fun x => x.cps.toList) ≠ [] := by
    intro e
    rw [e] at h3
    have h3 : l = [] := h3
    subst h3
    have : Txt.split ⟨([] : List Nat).toArray⟩ ⟨#[c]⟩ = [⟨([] : List Nat).toArray⟩] := by
      unfold Txt.split
      rw [if_pos (by simp [Str.length])]
    rw [this] at e
    cases e
  conv => rhs; rw [h3]
  exact (splitOn_joinOn hne fun p hp => by
    obtain ⟨x, hx, rfl⟩ := List.mem_map.mp hp
    exact h2 x hx).symm

theorem split_eq' (c : Nat) (l : List Nat) : Txt.split ⟨l.toArray⟩ ⟨#[c]⟩ = (splitOn c l).map fun p => ⟨p.toArray⟩ := by
  rw [← split_eq, List.map_map]
  conv => lhs; rw [← List.map_id (Txt.split ⟨l.toArray⟩ ⟨#[c]⟩)]
  apply List.map_congr_left
  intro x _
  simp

section
variable {C : Cx} {fr : Shape} {n : Nat} {vals vals' : List Slot}

theorem all2_strs {S : ASet} {h : Heap} : ∀ (k : Nat) (L : List (List Nat)), All2 S h (strValues (numbered k (L.map fun p => (⟨p.toArray⟩ : Str)))) (L.map vS)
  | _, [] => trivial
  | k, p :: L => ⟨⟨k, rfl⟩, all2_strs (k + 1) L⟩

theorem All2.one {S : ASet} {h : Heap} {vs : List Value} {p : VP} (x : All2 S h vs [p]) : ∃ a, vs = [a] ∧ p.P S h a := by
  cases vs with
  | nil => exact x.elim
  | cons a vs =>
    cases vs with
    | nil => exact ⟨a, rfl, x.1⟩
    | cons _ _ => exact x.2.elim
theorem All2.two {S : ASet} {h : Heap} {vs : List Value} {p q : VP} (x : All2 S h vs [p, q]) : ∃ a b, vs = [a, b] ∧ p.P S h a ∧ q.P S h b := by
  cases vs with
  | nil => exact x.elim
  | cons a vs =>
    obtain ⟨b, rfl, h⟩ := All2.one x.2
    exact ⟨a, b, rfl, x.1, h⟩
theorem All2.three {S : ASet} {h : Heap} {vs : List Value} {p q r : VP} (x : All2 S h vs [p, q, r]) : ∃ a b c, vs = [a, b, c] ∧ p.P S h a ∧ q.P S h b ∧ r.P S h c := by
  cases vs with
  | nil => exact x.elim
  | cons a vs =>
    obtain ⟨b, c, rfl, h⟩ := All2.two x.2
    exact ⟨a, b, c, rfl, x.1, h⟩
theorem FnG.split {c : Nat} {l : List Nat} (hsz : l.length < sizeLine) : FnG C n (.builtin "str.split") [vS l, vS [c]] (vLst ((splitOn c l).map vS)) := fun A S s vs I hA hx => by
    obtain ⟨x, y, rfl, hx, hy⟩ := hx.two
    obtain ⟨t, rfl⟩ := str_of hx; obtain ⟨u, rfl⟩ := str_of hy
    have e := split_eq' c l
    have hlen := splitOn_length c l
    unfold Txt.split at e
    cases h1 : (decide ((⟨l.toArray⟩ : Str).length < (⟨[c].toArray⟩ : Str).length) || decide (Builtin.Str.strKind ⟨l.toArray⟩ < Builtin.Str.strKind ⟨[c].toArray⟩)) with
    | true =>
      rw [if_pos h1] at e
      refine call_meets F.slot_str_split (typeIs_str _ _ _) F.entry_str_split (F.args_str_split_2 _ _) (meets_str_split_cannot_occur _ _ t u h1) ?_
      have hl : splitOn c l = [l] := by
        cases q : splitOn c l with
        | nil => exact absurd q (splitOn_ne c l)
        | cons p ps =>
          rw [q] at e
          simp at e
          rw [e.1, e.2]
      rw [hl]
      exact ⟨_, grow_push (tk := s.toks) I rfl, pushed_list (vs := [_]) I ⟨⟨t, rfl⟩, trivial⟩⟩
    | false =>
      rw [if_neg (by rw [h1]; decide)] at e
      cases hf : (Builtin.Str.occurrences ⟨l.toArray⟩ ⟨[c].toArray⟩ 0 (⟨l.toArray⟩ : Str).length ((⟨l.toArray⟩ : Str).length + 1)).isEmpty with
      | true =>
        rw [if_pos hf] at e
        refine call_meets F.slot_str_split (typeIs_str _ _ _) F.entry_str_split (F.args_str_split_2 _ _) (meets_str_split_not_found _ _ t u h1 rfl hf) ?_
        have hl : splitOn c l = [l] := by
          cases q : splitOn c l with
          | nil => exact absurd q (splitOn_ne c l)
          | cons p ps =>
            rw [q] at e
            simp at e
            rw [e.1, e.2]
        rw [hl]
        exact ⟨_, grow_push (tk := s.toks) I rfl, pushed_list (vs := [_]) I ⟨⟨t, rfl⟩, trivial⟩⟩
      | false =>
        rw [if_neg (by rw [hf]; decide)] at e
        have e' : Builtin.Str.partsBetween ⟨l.toArray⟩ (Builtin.Str.occurrences ⟨l.toArray⟩ ⟨[c].toArray⟩ 0 (⟨l.toArray⟩ : Str).length ((⟨l.toArray⟩ : Str).length + 1)) (⟨[c].toArray⟩ : Str).length = (splitOn c l).map fun p => ⟨p.toArray⟩ := e
        refine call_meets F.slot_str_split (typeIs_str _ _ _) F.entry_str_split (F.args_str_split_2 _ _) (meets_str_split_sep _ _ t u h1 rfl hf (by show l.toArray.size ≤ _; simp; lia) (by rw [e']; simp; lia)) ?_
        show wants _ _ _ _
        rw [e', strsFrom_eq]
        exact ⟨_, grow_push I rfl, pushed_list I (all2_strs _ _)⟩

/-! join -/
theorem all2_S {S : ASet} {h : Heap} : ∀ {vs : List Value} {L : List (List Nat)}, All2 S h vs (L.map vS) → ∃ l : List (Str × Tok), vs = strValues l ∧ l.map (·.1) = L.map fun p => ⟨p.toArray⟩
  | [], [], _ => ⟨[], rfl, rfl⟩
  | v :: vs, p :: L, ⟨⟨t, e⟩, b⟩ => by
    obtain ⟨l, h1, h2⟩ := all2_S b
    exact ⟨(⟨p.toArray⟩, t) :: l, by rw [e, h1]; rfl, by simp [h2]⟩
  | [], _ :: _, x => x.elim
  | _ :: _, [], x => x.elim

theorem joinTotal_le (sep : Str) : ∀ (L : List Str) (k : Nat), L.foldl (fun a x => a + x.length + sep.length) k = k + (L.map (·.length)).sum + L.length * sep.length
  | [], k => by simp
  | x :: L, k => by
    rw [List.foldl_cons, joinTotal_le sep L]
    simp [Nat.add_mul]; lia

theorem joinOk_of {c : Nat} {L : List (List Nat)} (hsz : (L.map (·.length)).sum + L.length ≤ sizeLine) : JoinOk ⟨[c].toArray⟩ (L.map fun p => (⟨p.toArray⟩ : Str)) = true := by
  have e := joinTotal_le ⟨[c].toArray⟩ (L.map fun p => (⟨p.toArray⟩ : Str)) 0
  have e2 : (L.map fun p => (⟨p.toArray⟩ : Str)).toArray.foldl (fun a x => a + x.length + (⟨[c].toArray⟩ : Str).length) 0 = (L.map (·.length)).sum + L.length := by
    rw [List.foldl_toArray, e]
    simp [Str.length, List.map_map, Function.comp_def]
  unfold JoinOk
  rw [e2]
  unfold Builtin.Str.tooLong
  rw [Bool.not_eq_true', decide_eq_false_iff_not]
  lia
theorem join_eq (c : Nat) (L : List (List Nat)) : Txt.join ⟨[c].toArray⟩ (L.map fun p => (⟨p.toArray⟩ : Str)) = ⟨(joinOn c L).toArray⟩ := by
  have h0 : Txt.join ⟨[c].toArray⟩ (L.map fun p => (⟨p.toArray⟩ : Str)) = Str.join ⟨[c].toArray⟩ (L.map fun p => (⟨p.toArray⟩ : Str)) := StrLaws.glued_eq_join _ _
  rw [h0]
  have := cps_join c (L.map fun p => (⟨p.toArray⟩ : Str))
  rw [List.map_map] at this
  have e : (fun x : Str => x.cps.toList) ∘ (fun p : List Nat => (⟨p.toArray⟩ : Str)) = id := by funext p; simp
  rw [e, List.map_id] at this
  apply Str.ext'
  apply Array.toList_inj.mp
  exact this

theorem FnG.join {c : Nat} {L : List (List Nat)} (hsz : (L.map (·.length)).sum + L.length ≤ sizeLine) : FnG C n (.builtin "str.join") [vS [c], vLst (L.map vS)] (vS (joinOn c L)) := fun A S s vs I hA hx => by
  obtain ⟨x, y, rfl, hx, hy⟩ := hx.two
  obtain ⟨t, rfl⟩ := str_of hx
  obtain ⟨a, ws, rfl, ha, hl, hw⟩ := hy
  obtain ⟨l, rfl, h2⟩ := all2_S hw
  exact SC.join hl.isList h2 (joinOk_of hsz) fun t' k => ⟨S, Grow.tok I k, t', by rw [join_eq]⟩

end
end Mine

/-! LSub -/
namespace Mine
open PySem PySem.W PyProof.Rows

/-- Python's cut of a list -/
noncomputable def cut {α : Type} (l : List α) (lo hi : Option Int) : List α :=
  (l.drop (lo.elim 0 (clipAt l.length))).take (hi.elim l.length (clipAt l.length) - lo.elim 0 (clipAt l.length))

section
variable {C : Cx} {fr : Shape} {n : Nat} {vals vals' : List Slot}

theorem subscripted_ops (slice : Expr) (o i : Value) : ∃ ops, subscripted slice false o i = operate ops (getItem o i) := by
  cases slice <;> first | exact ⟨_, rfl⟩ | (rename_i a b c d; cases c <;> exact ⟨_, rfl⟩)

/-- what p[q] is -/
noncomputable def SubG (C : Cx) (p q r : VP) : Prop :=
  ∀ A S s o i, Inv C S s → AOk 0 A → p.P S s.heap o → q.P S s.heap i → (∃ T id, s.TypeIs o T ∧ typeLookup (.type T) "__getitem__" = pure (some (.builtin id))) ∧ Gives C A (getItem o i) S s r

theorem Ev.sub {value slice : Expr} {pos : Pos} {p q r : VP} (hv : Ev C fr n vals value p) (hi : Ev C fr n vals slice q) (h : SubG C p q r) : Ev C fr n vals (.Subscript value slice pos) r := fun hb env A S s F =>
  Subscript_ (Gives.seq (q := p) (hv hb env A S s F) fun o S₁ s₁ g₁ x => Gives.seq (q := p) (hi hb env A S₁ s₁ (F.grow g₁)) fun i S₂ s₂ g₂ y => by
    obtain ⟨⟨T, id, hT, hl⟩, hg⟩ := h A S₂ s₂ o i g₂.inv (F.around.le (Nat.zero_le _)) (p.mono g₂.sub (p.keep (g₂.keeps g₁.inv) x)) y
    obtain ⟨ops, ho⟩ := subscripted_ops slice o i
    exact tail_any hT hl (wpAny_mono hg (fun _ _ ⟨S₃, g₃, z⟩ => ⟨S₃, (g₁.trans g₂).trans g₃, z⟩) fun _ _ z => z) ho)

theorem SubG.item {l : List VP} {i : Int} {p : VP} (h0 : 0 ≤ i) (hs : i < 2 ^ 63) (hp : l[i.toNat]? = some p) : SubG C (vLst l) (vInt i) p := fun A S s o v I _ ho hv => by
  obtain ⟨a, vs, rfl, ha, hl, hx⟩ := ho
  obtain ⟨t, rfl⟩ := int_of hv
  obtain ⟨w, hw, hpw⟩ := hx.get hp
  exact ⟨⟨_, _, hl.isList.typeIs, slot_list_getitem.lookup⟩, wpAny_getItem_list hl.isList h0 hs (by simpa using hw) ⟨S, .refl I, hpw⟩⟩
theorem SubG.itemNeg {l : List VP} {i : Int} {p : VP} (h0 : i < 0) (h1 : -(l.length : Int) ≤ i) (hs : -(2 ^ 63) ≤ i) (hp : l[(i + l.length).toNat]? = some p) : SubG C (vLst l) (vInt i) p := fun A S s o v I _ ho hv => by
  obtain ⟨a, vs, rfl, ha, hl, hx⟩ := ho
  obtain ⟨t, rfl⟩ := int_of hv
  obtain ⟨w, hw, hpw⟩ := hx.get hp
  exact ⟨⟨_, _, hl.isList.typeIs, slot_list_getitem.lookup⟩, wpAny_getItem_list_neg hl.isList h0 (by simpa [hx.length] using h1) hs (by simpa [hx.length] using hw) ⟨S, .refl I, hpw⟩⟩
theorem seqIndex_pos {i : Int} {len : Nat} (h0 : 0 ≤ i) (h : i.toNat < len) : seqIndex? i len = some i.toNat := by
  have h1 : ¬ i < 0 := Int.not_lt.mpr h0
  have h2 : i < len := (Int.toNat_lt h0).mp h
  unfold seqIndex?
  dsimp only
  rw [if_neg h1, decide_eq_true h0, decide_eq_true h2]
  rfl
theorem SubG.tup {l : List VP} {i : Int} {p : VP} (h0 : 0 ≤ i) (hs : i < 2 ^ 63) (hp : l[i.toNat]? = some p) : SubG C (vTup l) (vInt i) p := fun A S s o v I _ ho hv => by
  obtain ⟨a, vs, rfl, ha, hl, hx⟩ := ho
  obtain ⟨t, rfl⟩ := int_of hv
  obtain ⟨w, hw, hpw⟩ := hx.get hp
  have hlt : i.toNat < vs.length := (List.getElem?_eq_some_iff.mp hw).1
  refine ⟨⟨_, _, hl.typeIs, slot_tuple_getitem.lookup⟩, getItem_tuple hl (Int.le_trans (by decide) h0) hs (j := i.toNat) ?_ (by simpa using hw) ⟨S, .refl I, hpw⟩⟩
  exact seqIndex_pos h0 (by simpa using hlt)
theorem SubG.sign {l : List Nat} {i : Int} {c : Nat} (h0 : 0 ≤ i) (hs : i < 2 ^ 63) (hp : l[i.toNat]? = some c) : SubG C (vS l) (vInt i) (vS [c]) := fun A S s o v I _ ho hv => by
  obtain ⟨t, rfl⟩ := str_of ho
  obtain ⟨u, rfl⟩ := int_of hv
  have hlt : i.toNat < l.length := (List.getElem?_eq_some_iff.mp hp).1
  refine ⟨⟨_, _, typeIs_str _ _ _, F.slot_str_getitem.lookup⟩, P.getItem_str (c := c) ?_ ?_ ⟨S, Grow.tok I _, _, rfl⟩⟩
  · simp
    exact ⟨Int.le_trans (by decide) h0, hs⟩
  · rw [seqIndex_pos (len := (⟨l.toArray⟩ : Str).length) h0 hlt]
    simpa using hp

/-! cuts -/
noncomputable def vSlice (lo hi : Option Int) : VP where
  P := fun S h v => ∃ a vl vu, v = .ref a ∧ S a ∧ h.IsSliceOf a vl vu .none ∧ IsPart vl lo ∧ IsPart vu hi
  mono := fun hs x => by obtain ⟨a, vl, vu, e, ha, r⟩ := x; exact ⟨a, vl, vu, e, hs _ ha, r⟩
  keep := fun hk x => by obtain ⟨a, vl, vu, e, ha, ⟨o, ho, r⟩, q⟩ := x; exact ⟨a, vl, vu, e, ha, ⟨o, hk _ _ ha ho, r⟩, q⟩

/-- a bound of a cut -/
noncomputable def EvPart (C : Cx) (fr : Shape) (n : Nat) (vals : List Slot) (e : Option Expr) (b : Option Int) : Prop :=
  (e = none ∧ b = none) ∨ ∃ x i, e = some x ∧ b = some i ∧ Ev C fr n vals x (vInt i)
theorem EvPart.none : EvPart C fr n vals none none := .inl ⟨rfl, rfl⟩
theorem EvPart.some {x : Expr} {i : Int} (h : Ev C fr n vals x (vInt i)) : EvPart C fr n vals (some x) (some i) := .inr ⟨x, i, rfl, rfl, h⟩
theorem EvPart.run {hb env A S s} {e : Option Expr} {b : Option Int} (h : EvPart C fr n vals e b) (F : FrameOk C fr n hb env A S s vals) : wpAny C.M A (evalPart e env) (fun v s' => IsPart v b ∧ ∃ S', Grow C S s S' s') F0 s := by
  rcases h with ⟨rfl, rfl⟩ | ⟨x, i, rfl, rfl, h⟩
  · exact wpAny_evalPart_none ⟨.none, S, .refl F.inv⟩
  · exact wpAny_evalPart_some (wpAny_mono (h hb env A S s F) (fun v s' ⟨S', g, t, e⟩ => by subst e; exact ⟨.int _ _, S', g⟩) fun _ _ z => z)

theorem Ev.slice {lower upper : Option Expr} {pos : Pos} {lo hi : Option Int} (hl : EvPart C fr n vals lower lo) (hu : EvPart C fr n vals upper hi) : Ev C fr n vals (.Slice lower upper Option.none pos) (vSlice lo hi) := fun hb env A S s F =>
  wpAny_Slice (wpAny_mono (hl.run F) (fun vl s₁ ⟨pl, S₁, g₁⟩ => wpAny_mono (hu.run (F.grow g₁)) (fun vu s₂ ⟨pu, S₂, g₂⟩ => wpAny_evalPart_none
    ⟨_, (g₁.trans g₂).trans (grow_push (tk := s₂.toks) g₂.inv rfl), _, vl, vu, rfl, .inr rfl, Heap.IsSliceOf.new .., pl, pu⟩) fun _ _ z => z) fun _ _ z => z)

theorem SubG.cutL {l : List VP} {lo hi : Option Int} (hsz : l.length ≤ sizeLine) : SubG C (vLst l) (vSlice lo hi) (vLst (cut l lo hi)) := fun A S s o v I _ ho hv => by
  obtain ⟨a, vs, rfl, ha, hl, hx⟩ := ho
  obtain ⟨b, vl, vu, rfl, hb, hsl, pl, pu⟩ := hv
  refine ⟨⟨_, _, hl.isList.typeIs, slot_list_getitem.lookup⟩, wpAny_getItem_list_slice hl.isList hsl pl pu .none (by simp) ?_ (by rw [List.size_toArray, hx.length]; exact hsz)⟩
  have e : slicePick vs.toArray lo hi none = (cut vs lo hi).toArray := by rw [slicePick_plain]; simp [cut]
  rw [e]
  have hc : All2 S s.heap (cut vs lo hi) (cut l lo hi) := by
    unfold cut
    rw [hx.length]
    exact (hx.drop _).take _
  exact ⟨_, grow_push (tk := s.toks) I rfl, pushed_list I hc⟩

theorem strSlice_eq (lo hi : Option Int) (l : List Nat) : (Builtin.Str.strSliceIndices lo hi 1 l.length).filterMap (l[·]?) = cut l lo hi := by
  have e : Builtin.Str.strSliceIndices lo hi 1 l.length = sliceRange (sliceBounds lo hi none l.length).1 (sliceBounds lo hi none l.length).2.1 (sliceBounds lo hi none l.length).2.2 := rfl
  rw [e, sliceBounds_plain]
  simp only [sliceRange_one]
  have := pick_run l.toArray (lo.elim 0 (clipAt l.length)) (hi.elim l.length (clipAt l.length) - lo.elim 0 (clipAt l.length))
  simpa [cut] using this

theorem clipAt_le (k : Nat) (i : Int) : clipAt k i ≤ k :=
  Int.ofNat_le.mp (by rw [clipAt_cast]; exact Int.max_le.mpr ⟨Int.natCast_nonneg _, Int.min_le_right _ _⟩)
theorem strSlice_whole {lo hi : Option Int} {l : List Nat} (h : (Builtin.Str.strSliceIndices lo hi 1 l.length).length = l.length) : cut l lo hi = l := by
  have e : Builtin.Str.strSliceIndices lo hi 1 l.length = sliceRange (sliceBounds lo hi none l.length).1 (sliceBounds lo hi none l.length).2.1 (sliceBounds lo hi none l.length).2.2 := rfl
  rw [e, sliceBounds_plain] at h
  simp only [sliceRange_one, List.length_map, List.length_range] at h
  unfold cut
  have hb : hi.elim l.length (clipAt l.length) ≤ l.length := by
    cases hi with
    | none => exact Nat.le_refl _
    | some i => exact clipAt_le _ _
  rw [h]
  by_cases h0 : l.length = 0
  · have : l = [] := List.length_eq_zero_iff.mp h0
    subst this; simp
  · have : lo.elim 0 (clipAt l.length) = 0 := by lia
    rw [this]; simp

theorem part_of {v : Value} {b : Option Int} (h : IsPart v b) : ∃ p : Option (Int × Tok), v = partValue p ∧ p.map (·.1) = b := by
  cases h with
  | none => exact ⟨.none, rfl, rfl⟩
  | int i t => exact ⟨.some (i, t), rfl, rfl⟩

theorem cut_length {α : Type} (l : List α) (lo hi : Option Int) : (cut l lo hi).length ≤ l.length := by
  unfold cut
  rw [List.length_take, List.length_drop]; exact Nat.le_trans (Nat.min_le_right _ _) (Nat.sub_le _ _)

theorem SubG.cutS {l : List Nat} {lo hi : Option Int} (hsz : l.length ≤ sizeLine) : SubG C (vS l) (vSlice lo hi) (vS (cut l lo hi)) := fun A S s o v I _ ho hv => by
  obtain ⟨t, rfl⟩ := str_of ho
  obtain ⟨b, vl, vu, rfl, hb, hsl, pl, pu⟩ := hv
  obtain ⟨p, rfl, hp⟩ := part_of pl
  obtain ⟨q, rfl, hq⟩ := part_of pu
  refine ⟨⟨_, _, typeIs_str _ _ _, F.slot_str_getitem.lookup⟩, wpAny_getItem_str_slice (l := p) (u := q) (st := none) hsl rfl ?_⟩
  have e0 : (⟨l.toArray⟩ : Str).length = l.length := by simp [Str.length]
  have e1 : slicePicked ⟨l.toArray⟩ p q none = Builtin.Str.strSliceIndices lo hi 1 l.length := by
    unfold slicePicked
    rw [hp, hq, e0]; rfl
  have e2 := strSlice_eq lo hi l
  unfold sliceMade
  rw [e1]
  split
  · rename_i h
    simp only [Option.map_none, Option.getD_none, Bool.and_eq_true, beq_iff_eq, e0] at h
    have h3 : cut l lo hi = l := strSlice_whole h.2
    refine ⟨S, .refl I, t, by rw [h3]⟩
  · refine ⟨?_, S, Grow.tok I _, s.toks, ?_⟩
    · show Array.size _ ≤ _
      have : ((Builtin.Str.strSliceIndices lo hi 1 l.length).filterMap fun x => (l.toArray)[x]?) = cut l lo hi := by rw [← e2]; simp
      rw [this]
      simp
      exact Nat.le_trans (cut_length l lo hi) hsz
    · show Value.str ⟨((Builtin.Str.strSliceIndices lo hi 1 l.length).filterMap fun x => (l.toArray)[x]?).toArray⟩ _ = _
      have : ((Builtin.Str.strSliceIndices lo hi 1 l.length).filterMap fun x => (l.toArray)[x]?) = cut l lo hi := by rw [← e2]; simp
      rw [this]

end
end Mine

/-! LFun -/
namespace Mine
open PySem PySem.W PyProof.Rows

section
variable {C : Cx} {fr : Shape} {n : Nat} {vals vals' : List Slot}

theorem Gives.of_kept {A : Around} {S : ASet} {s : Shared} {h' : Heap} {tk : Nat} (I : Inv C S s) (hk : ∀ b o, s.heap.get? b = some o → h'.get? b = some o) : Grow C S s S { s with heap := h', toks := tk } :=
  grow_of_kept I hk (fun _ h => h) fun _ h => .inl h

/-! len -/
theorem FnG.lenS {l : List Nat} (hsz : l.length ≤ sizeLine) : FnG C n (.builtin "len") [vS l] (vInt l.length) := fun A S s vs I _ hv => by
  obtain ⟨x, rfl, hx⟩ := hv.one
  obtain ⟨t, rfl⟩ := str_of hx
  have e0 : (⟨l.toArray⟩ : Str).length = l.length := by simp [Str.length]
  refine P.len_str ?_ ⟨S, Grow.tok I _, s.toks + 1, ?_⟩
  · rw [e0]; have : sizeLine = 16777216 := rfl; lia
  · rw [e0]
theorem FnG.lenL {l : List VP} (hsz : l.length ≤ sizeLine) : FnG C n (.builtin "len") [vLst l] (vInt l.length) := fun A S s vs I _ hv => by
  obtain ⟨x, rfl, hx⟩ := hv.one
  obtain ⟨a, ws, rfl, ha, hl, hw⟩ := hx
  refine len_list hl.isList ?_ ⟨S, Grow.tok I _, s.toks + 1, ?_⟩
  · rw [List.size_toArray, hw.length]; have : sizeLine = 16777216 := rfl; lia
  · rw [List.size_toArray, hw.length]
theorem FnG.lenT {l : List VP} (hsz : l.length ≤ sizeLine) : FnG C n (.builtin "len") [vTup l] (vInt l.length) := fun A S s vs I _ hv => by
  obtain ⟨x, rfl, hx⟩ := hv.one
  obtain ⟨a, ws, rfl, ha, hl, hw⟩ := hx
  refine len_tuple hl ?_ ⟨S, Grow.tok I _, s.toks + 1, ?_⟩
  · rw [List.size_toArray, hw.length]; have : sizeLine = 16777216 := rfl; lia
  · rw [List.size_toArray, hw.length]

/-! range -/
noncomputable def vRange (a b c : Int) : VP where
  P := fun S h v => ∃ r t u w, v = .ref r ∧ S r ∧ IsRange h r a b c t u w
  mono := fun hs x => by obtain ⟨r, t, u, w, e, ha, q⟩ := x; exact ⟨r, t, u, w, e, hs _ ha, q⟩
  keep := fun hk x => by obtain ⟨r, t, u, w, e, ha, q⟩ := x; exact ⟨r, t, u, w, e, ha, hk _ _ ha q⟩

theorem FnG.range1 {b : Int} : FnG C n (.type "range") [vInt b] (vRange 0 b 1) := fun A S s vs I _ hv => by
  obtain ⟨x, rfl, hx⟩ := hv.one
  obtain ⟨t, rfl⟩ := int_of hx
  exact call_range_1 ⟨_, grow_push I rfl, _, _, _, _, rfl, .inr rfl, IsRange.new ..⟩
theorem FnG.range2 {a b : Int} : FnG C n (.type "range") [vInt a, vInt b] (vRange a b 1) := fun A S s vs I _ hv => by
  obtain ⟨x, y, rfl, hx, hy⟩ := hv.two
  obtain ⟨t, rfl⟩ := int_of hx; obtain ⟨u, rfl⟩ := int_of hy
  exact call_range_2 ⟨_, grow_push I rfl, _, _, _, _, rfl, .inr rfl, IsRange.new ..⟩
theorem FnG.range3 {a b c : Int} (hc : 0 < c) (hs : c < 1073741824) : FnG C n (.type "range") [vInt a, vInt b, vInt c] (vRange a b c) := fun A S s vs I _ hv => by
  obtain ⟨x, y, z, rfl, hx, hy, hz⟩ := hv.three
  obtain ⟨t, rfl⟩ := int_of hx; obtain ⟨u, rfl⟩ := int_of hy; obtain ⟨w, rfl⟩ := int_of hz
  exact call_range_3 (by lia) ⟨_, grow_push I rfl, _, _, _, _, rfl, .inr rfl, IsRange.new ..⟩ (.inl (PyProof.noPylong_small (by lia)))

/-- the ints of a range with a positive step -/
noncomputable def rangeL (a b c : Int) : List Int := (List.range (if a < b then ((b - a - 1) / c + 1).toNat else 0)).map fun (k : Nat) => a + (k : Int) * c

theorem six_cases {k : Int} (h : 0 ≤ k ∧ k < 6) : k = 0 ∨ k = 1 ∨ k = 2 ∨ k = 3 ∨ k = 4 ∨ k = 5 := by
  obtain ⟨m, rfl⟩ := Int.eq_ofNat_of_zero_le h.1
  have hm : m < 6 := Int.ofNat_lt.mp h.2
  match m, hm with
  | 0, _ => exact .inl rfl
  | 1, _ => exact .inr (.inl rfl)
  | 2, _ => exact .inr (.inr (.inl rfl))
  | 3, _ => exact .inr (.inr (.inr (.inl rfl)))
  | 4, _ => exact .inr (.inr (.inr (.inr (.inl rfl))))
  | 5, _ => exact .inr (.inr (.inr (.inr (.inr rfl))))
theorem rangeL_one (a b : Int) : rangeL a b 1 = (List.range (b - a).toNat).map fun (k : Nat) => a + (k : Int) := by
  unfold rangeL
  have e : (if a < b then ((b - a - 1) / 1 + 1).toNat else 0) = (b - a).toNat := by
    rw [Int.ediv_one, Int.sub_add_cancel]
    split
    · rfl
    · rename_i h
      exact (Int.toNat_of_nonpos (Int.sub_nonpos_of_le (Int.not_lt.mp h))).symm
  rw [e]
  simp only [Int.mul_one]
theorem mem_rangeL {a b i : Int} (h : i ∈ rangeL a b 1) : a ≤ i ∧ i < b := by
  rw [rangeL_one] at h
  obtain ⟨k, hk, rfl⟩ := List.mem_map.mp h
  exact ⟨Int.le_add_of_nonneg_right (Int.natCast_nonneg _), Int.add_lt_of_lt_sub_left (Int.lt_toNat.mp (List.mem_range.mp hk))⟩
theorem rangeL_mem {a b i : Int} (h1 : a ≤ i) (h2 : i < b) : i ∈ rangeL a b 1 := by
  rw [rangeL_one]
  have e : ((i - a).toNat : Int) = i - a := Int.toNat_of_nonneg (Int.sub_nonneg_of_le h1)
  refine List.mem_map.mpr ⟨(i - a).toNat, List.mem_range.mpr (Int.lt_toNat.mpr ?_), ?_⟩
  · rw [e]; exact Int.sub_lt_sub_right h2 a
  · rw [e, Int.add_comm, Int.sub_add_cancel]
theorem rangeL_length (k : Nat) : (rangeL 0 k 1).length = k := by
  rw [rangeL_one, List.length_map, List.length_range, Int.sub_zero]; rfl
theorem rangeL_length' (a : Int) (k : Int) (h : 0 ≤ a) : ((rangeL a k 1).length : Int) ≤ max 0 k := by
  rw [rangeL_one, List.length_map, List.length_range, Int.ofNat_toNat]
  exact Int.max_le.mpr ⟨Int.le_trans (Int.sub_le_self k h) (Int.le_max_right _ _), Int.le_max_left _ _⟩
theorem rangeL_get {N : Nat} (k : Int) (h0 : 0 ≤ k) (h1 : k < N) : (rangeL 0 N 1)[k.toNat]? = some k := by
  rw [rangeL_one, List.getElem?_map, Int.sub_zero, Int.toNat_natCast, List.getElem?_range ((Int.toNat_lt h0).mpr h1)]
  show some (0 + (k.toNat : Int)) = some k
  rw [Int.zero_add, Int.toNat_of_nonneg h0]
theorem fits63 {x : Int} (h : -(2 ^ 40) ≤ x ∧ x < 2 ^ 42) : -2 ^ 63 ≤ x ∧ x < 2 ^ 63 := ⟨Int.le_trans (by decide) h.1, Int.lt_trans h.2 (by decide)⟩
theorem range_small {a b c : Int} (hc : 0 < c) (ha : -(2 ^ 40) ≤ a ∧ a < 2 ^ 40) (hb : -(2 ^ 40) ≤ b ∧ b < 2 ^ 40) (hcs : c < 2 ^ 40) (hsize : Builtin.Range.rangeSize a b c = if a < b then (b - a - 1) / c + 1 else 0) : Builtin.Range.small a b c = true := by
  have f40 : ∀ {x : Int}, -(2 ^ 40) ≤ x ∧ x < 2 ^ 40 → -2 ^ 63 ≤ x ∧ x < 2 ^ 63 := fun h => fits63 ⟨h.1, Int.lt_trans h.2 (by decide)⟩
  have fc := f40 ⟨Int.le_trans (by decide) (Int.le_of_lt hc), hcs⟩
  unfold Builtin.Range.small
  rw [hsize]
  unfold Builtin.Range.rangeFitsLong
  by_cases h : a < b
  · have h0 : 0 ≤ b - a - 1 := Int.sub_nonneg_of_le (Int.add_one_le_of_lt h |> fun q => Int.le_sub_left_of_add_le q)
    have h1 : (b - a - 1) / c ≤ b - a - 1 := Int.ediv_le_self _ h0
    have h2 : 0 ≤ (b - a - 1) / c := Int.ediv_nonneg h0 (Int.le_of_lt hc)
    simp only [if_pos h, if_pos hc, Bool.and_eq_true, decide_eq_true_eq, Bool.or_eq_true]
    exact ⟨⟨⟨⟨f40 ha, f40 hb⟩, fc⟩, fits63 (by lia)⟩, .inr (fits63 (by lia))⟩
  · simp only [if_neg h, Bool.and_eq_true, decide_eq_true_eq, Bool.or_eq_true]
    exact ⟨⟨⟨⟨f40 ha, f40 hb⟩, fc⟩, by decide⟩, .inl rfl⟩
theorem IterG.range {a b c : Int} (hc : 0 < c) (ha : -(2 ^ 40) ≤ a ∧ a < 2 ^ 40) (hb : -(2 ^ 40) ≤ b ∧ b < 2 ^ 40) (hcs : c < 2 ^ 40) : IterG C (vRange a b c) ((rangeL a b c).map vInt) := fun A S s v I _ hp => by
  obtain ⟨r, t, u, w, rfl, hr, hq⟩ := hp
  have hsize : Builtin.Range.rangeSize a b c = if a < b then (b - a - 1) / c + 1 else 0 := by
    unfold Builtin.Range.rangeSize
    rw [if_pos hc]
  refine wpAny_pyIter_range hq (range_small hc ha hb hcs hsize) ⟨_, [s.heap.objs.size], S, rfl, grow_push' (tk := s.toks) I, ?_, fun b hb => ?_⟩
  · have := ItOk.range (S := S) (h := s.heap.push { cls := .type "range_iterator", data := .fields #[rawInt a, rawInt (Builtin.Range.rangeSize a b c), rawInt c] }) (I := s.heap.objs.size) (x := a) (left := Builtin.Range.rangeSize a b c) (step := c) (Heap.get?_push_size _ rfl)
    have e : (List.range (Builtin.Range.rangeSize a b c).toNat).map (fun (k : Nat) => vInt (a + (k : Int) * c)) = (rangeL a b c).map vInt := by
      unfold rangeL
      rw [List.map_map, hsize]
      have : (if a < b then (b - a - 1) / c + 1 else 0).toNat = if a < b then ((b - a - 1) / c + 1).toNat else 0 := by split <;> rfl
      rw [this]
      rfl
    rw [← e]
    exact this
  · cases List.mem_singleton.mp hb
    exact ⟨not_size I, not_live (size_none _)⟩

/-! ints in lists -/
theorem all2_ints {S : ASet} {h : Heap} : ∀ {vs : List Value} {ns : List Int}, All2 S h vs (ns.map vInt) → ∃ xs : List (Int × Tok), vs = xs.map (fun p => Value.int p.1 p.2) ∧ xs.map (·.1) = ns
  | [], [], _ => ⟨[], rfl, rfl⟩
  | v :: vs, p :: L, ⟨⟨t, e⟩, b⟩ => by
    obtain ⟨l, h1, h2⟩ := all2_ints b
    exact ⟨(p, t) :: l, by rw [e, h1]; rfl, by simp [h2]⟩
  | [], _ :: _, x => x.elim
  | _ :: _, [], x => x.elim

theorem FnG.sum {ns : List Int} : FnG C n (.builtin "sum") [vLst (ns.map vInt)] (vInt ns.sum) := fun A S s vs I hA hv => by
  obtain ⟨x, rfl, hx⟩ := hv.one
  obtain ⟨a, ws, rfl, ha, hl, hw⟩ := hx
  obtain ⟨xs, rfl, hxs⟩ := all2_ints hw
  have hl' : s.heap.IsList a (intItems xs.toArray) := by
    have := hl.isList
    have e : intItems xs.toArray = (xs.map (fun p => Value.int p.1 p.2)).toArray := by simp [intItems]
    rw [e]; exact this
  refine sum_intListG hA.handled hl' fun h' tk t' hk => ⟨S, Gives.of_kept (A := A) I hk, t', ?_⟩
  rw [preSum_eq, List.take_of_length_le (by simp)]
  simp [hxs]

theorem FnG.max2 {a b : Int} : FnG C n (.builtin "max") [vInt a, vInt b] (vInt (max a b)) := fun A S s vs I hA hv => by
  obtain ⟨x, y, rfl, hx, hy⟩ := hv.two
  obtain ⟨t, rfl⟩ := int_of hx; obtain ⟨u, rfl⟩ := int_of hy
  refine max_two_ints hA.handled fun h' tk hk => ⟨S, Gives.of_kept (A := A) I hk, ?_⟩
  by_cases h : b > a
  · rw [if_pos h, Int.max_eq_right (by lia)]; exact ⟨u, rfl⟩
  · rw [if_neg h, Int.max_eq_left (by lia)]; exact ⟨t, rfl⟩
end
end Mine

/-! LFun2 -/
namespace Mine
open PySem PySem.W PyProof.Rows

/-- an int's decimal text -/
noncomputable def dig (i : Int) : List Nat := (Str.ofString (toString i)).cps.toList
theorem dig_str (i : Int) : (⟨(dig i).toArray⟩ : Str) = Str.ofString (toString i) := by simp [dig]
theorem dig_digits {i : Int} (h0 : 0 ≤ i) : ∀ c ∈ dig i, 48 ≤ c ∧ c ≤ 57 := by
  obtain ⟨m, rfl⟩ := Int.eq_ofNat_of_zero_le h0
  intro c hc
  unfold dig at hc
  rw [KIN.signs_num] at hc
  obtain ⟨ch, hch, e⟩ := List.mem_map.mp hc
  have r := digit_range (Nat.isDigit_of_mem_toDigits (by decide) (by decide) hch)
  rw [← e]
  exact r
theorem dig_length {i : Int} (h0 : 0 ≤ i) (h1 : i < 10 ^ 10) : (dig i).length ≤ 10 := by
  have := KT.len_num h0 h1
  simpa [dig, Str.length] using this

section
variable {C : Cx} {fr : Shape} {n : Nat} {vals vals' : List Slot}

theorem FnG.str {i : Int} (h0 : 0 ≤ i) (h1 : i < 10 ^ 10) : FnG C n (.type "str") [vInt i] (vS (dig i)) := fun A S s vs I hA hv => by
  obtain ⟨x, rfl, hx⟩ := hv.one
  obtain ⟨t, rfl⟩ := int_of hx
  refine P.str_of_int ?_ ⟨S, Grow.tok I _, s.toks, ?_⟩
  · by_cases h : i.natAbs = 0
    · rw [h]; decide
    · have : i.natAbs.log2 < 40 := (Nat.log2_lt h).mpr (by lia)
      lia
  · rw [dig_str]
theorem FnG.int {i : Int} (h0 : 0 ≤ i) (h1 : i < 10 ^ 10) : FnG C n (.type "int") [vS (dig i)] (vInt i) := fun A S s vs I hA hv => by
  obtain ⟨x, rfl, hx⟩ := hv.one
  obtain ⟨t, rfl⟩ := str_of hx
  rw [dig_str]
  exact KIN.call_num h0 h1 ⟨S, Grow.tok I _, s.toks, rfl⟩

/-! in -/
theorem any_ints (ns : List Int) (i : Int) : (ns.map PyData.int).any (fun y => PyData.eqv y (.int i)) = decide (i ∈ ns) := by
  induction ns with
  | nil => simp
  | cons a r ih =>
    rw [List.map_cons, List.any_cons, ih]
    simp only [PyData.eqv, List.mem_cons]
    by_cases h : a = i
    · subst h; simp
    · have h' : ¬ i = a := fun e => h e.symm
      simp [h, h']
theorem canLay_ints (ns : List Int) : PyData.canLayAll0 (ns.map PyData.int) = true := by
  induction ns with
  | nil => rfl
  | cons a r ih => simp [PyData.canLayAll0, PyData.canLay0, ih]
theorem depth_ints (ns : List Int) : PyData.depthAll (ns.map PyData.int) ≤ 1 := by
  induction ns with
  | nil => simp [PyData.depthAll]
  | cons a r ih => simp [PyData.depthAll, PyData.depth]; lia
theorem CmpG.notInI {i : Int} {ns : List Int} : CmpG C .NotIn (vInt i) (vLst (ns.map vInt)) (decide (i ∉ ns)) := fun A S s x y I hA hx hy => by
  obtain ⟨bs, rb⟩ := reads_int i _ _ _ hx
  obtain ⟨as, ra⟩ := reads_lst (readsL_map vInt PyData.int reads_int ns) _ _ _ hy
  refine SeqAt.notIn_list_reads ra rb (canLay_ints ns) rfl ?_ ⟨S, .refl I, ?_⟩
  · have := hA.units
    have := depth_ints ns
    lia
  · rw [any_ints]
    show Value.bool _ = Value.bool _
    congr 1
    by_cases h : i ∈ ns <;> simp [h]

/-! lists that are made -/
theorem add_lists_plain {A : Around} {s : Shared} {l b : Addr} {vs ws : List Value} {Q : Value → Shared → Prop} (hl : PL s.heap l vs.toArray) (hb : PL s.heap b ws.toArray)
    (h : Q (.ref s.heap.objs.size) { s with heap := s.heap.push { cls := .type "list", data := .seq (vs ++ ws).toArray } }) (hsz : vs.length + ws.length ≤ sizeLine) : wpAny C.M A (binaryOp .Add (.ref l) (.ref b)) Q F0 s := by
  obtain ⟨n1, ho⟩ := hl.exact
  obtain ⟨n2, ho2⟩ := hb.exact
  have e : vs.toArray ++ ws.toArray = (vs ++ ws).toArray := by simp
  refine concat_meets ⟨_, ho, rfl⟩ ⟨_, ho2, rfl⟩ noFill_list_add seq_list_add PySem.F.slot_list_add PySem.F.entry_list_add (PySem.F.args_list_add_2 _ _) (list_addW l b vs.toArray ws.toArray n1 n2 none none #[] #[] (by simpa using hsz)) ⟨ho, ho2, ?_⟩
  rw [e]
  exact h

theorem EvL.add {l r : Expr} {pos : Pos} {a b : List VP} (hl : Ev C fr n vals l (vLst a)) (hr : Ev C fr n vals r (vLst b)) (hsz : a.length + b.length ≤ sizeLine) : EvL C fr n vals (.BinOp l .Add r pos) (a ++ b) := fun hb env A S s F =>
  wpAny_BinOp (Gives.seq (q := vNone) (hl hb env A S s F) fun x S₁ s₁ g₁ hx => Gives.seq (q := vNone) (hr hb env A S₁ s₁ (F.grow g₁)) fun y S₂ s₂ g₂ hy => by
    have hx := (vLst a).mono g₂.sub ((vLst a).keep (g₂.keeps g₁.inv) hx)
    obtain ⟨i, vs, rfl, _, hl1, hx1⟩ := hx
    obtain ⟨j, ws, rfl, _, hl2, hx2⟩ := hy
    exact add_lists_plain hl1 hl2 ⟨S₂, (pushed_fresh (tk := s₂.toks) g₂.inv (hx1.append hx2)).before (g₁.trans g₂)⟩ (by rw [hx1.length, hx2.length]; exact hsz))

theorem foldl_rep (vs : List Value) : ∀ k : Nat, List.foldl (fun x1 x2 => x1 ++ x2) #[] (List.replicate k vs.toArray) = (List.replicate k vs).flatten.toArray := by
  intro k
  have key : ∀ (k : Nat) (acc : Array Value), List.foldl (fun x1 x2 => x1 ++ x2) acc (List.replicate k vs.toArray) = acc ++ (List.replicate k vs).flatten.toArray := by
    intro k
    induction k with
    | zero => intro acc; simp
    | succ k ih => intro acc; rw [List.replicate_succ, List.foldl_cons, ih, List.replicate_succ, List.flatten_cons]; simp
  rw [key k #[]]; simp

theorem All2.rep {S : ASet} {h : Heap} {vs : List Value} {ps : List VP} (x : All2 S h vs ps) : ∀ k : Nat, All2 S h (List.replicate k vs).flatten (List.replicate k ps).flatten
  | 0 => trivial
  | k + 1 => by rw [List.replicate_succ, List.replicate_succ, List.flatten_cons, List.flatten_cons]; exact x.append (x.rep k)

theorem mul_list_plain {A : Around} {s : Shared} {l : Addr} {vs : List Value} {x : Int} {u : Tok} {Q : Value → Shared → Prop} (hl : PL s.heap l vs.toArray)
    (hlo : -(2 ^ 63 : Int) ≤ x) (hhi : x < 2 ^ 63) (hsz : vs.length * x.toNat ≤ 2 ^ 24) (hne : vs ≠ [])
    (h : Q (.ref s.heap.objs.size) { s with heap := s.heap.push { cls := .type "list", data := .seq (List.replicate x.toNat vs).flatten.toArray } }) :
    wpAny C.M A (binaryOp .Mult (.ref l) (.int x u)) Q F0 s := by
  obtain ⟨k, ho⟩ := hl.exact
  have hsz' : vs.toArray.size * x.toNat ≤ 2 ^ 24 := by simpa using hsz
  refine wpAny_binaryOp_repeat_ref (T := "list") (U := "int") (by decide) ⟨_, ho, rfl⟩ (fun s' => typeIs_int s' x u) noFill_list_mul F.fills_int_mul F.slot_int_rmul repeat_list F.slot_int_index.lookup
    (call_meets F.slot_int_rmul (typeIs_int s x u) F.entry_int_rmul (F.args_int_rmul_2 _ _) (int___rmul___int_list x u l vs.toArray k)
      ⟨ho, rfl, ⟨_, ho, rfl⟩, call_meets F.slot_list_mul ⟨_, ho, rfl⟩ F.entry_list_mul (F.args_list_mul_2 _ _)
        (AutoListH.list___mul___list_int_3 l vs.toArray k x u (by simp [Builtin.List.listFitsIndex]; lia) (by lia) (by simp only [Builtin.List.listTooLong, sizeLine]; simp; simpa using hsz'))
        ⟨ho, ?_⟩⟩)
  have e0 : (if vs.toArray.isEmpty = true then 0 else x.toNat) = x.toNat := by
    cases vs with
    | nil => exact absurd rfl hne
    | cons => simp
  rw [e0, foldl_rep]
  exact h

theorem EvL.mul {l r : Expr} {pos : Pos} {p : VP} {k : Int} (hl : Ev C fr n vals l (vLst [p])) (hr : Ev C fr n vals r (vInt k)) (hk : k ≤ 1048576) (hk0 : -1048576 ≤ k) : EvL C fr n vals (.BinOp l .Mult r pos) (List.replicate k.toNat p) := fun hb env A S s F =>
  wpAny_BinOp (Gives.seq (q := vNone) (hl hb env A S s F) fun x S₁ s₁ g₁ hx => Gives.seq (q := vNone) (hr hb env A S₁ s₁ (F.grow g₁)) fun y S₂ s₂ g₂ hy => by
    have hx := (vLst [p]).mono g₂.sub ((vLst [p]).keep (g₂.keeps g₁.inv) hx)
    obtain ⟨i, vs, rfl, _, hl1, hx1⟩ := hx
    obtain ⟨t, rfl⟩ := int_of hy
    obtain ⟨v, rfl, hpv⟩ := hx1.one
    refine mul_list_plain hl1 (by lia) (by lia) (by simp; lia) (by simp) ?_
    rw [List.flatten_replicate_singleton]
    have hrep : All2 S₂ s₂.heap (List.replicate k.toNat v) (List.replicate k.toNat p) := by
      have := hx1.rep k.toNat
      rwa [List.flatten_replicate_singleton, List.flatten_replicate_singleton] at this
    exact ⟨S₂, (pushed_fresh (tk := s₂.toks) g₂.inv hrep).before (g₁.trans g₂)⟩)

/-- xs[k] = v -/
theorem setItem_PL {A : Around} {s : Shared} {l : Addr} {items : Array Value} {k : Int} {t : Tok} {v : Value} {Q : Unit → Shared → Prop} (hl : PL s.heap l items) (h0 : 0 ≤ k) (hfit : k < 2 ^ 63) (hn : k < items.size)
    (hQ : ∀ h', PL h' l (items.setIfInBounds k.toNat v) → Heap.SameBut l s.heap h' → Q () { s with heap := h' }) : wpAny C.M A (setItem (.ref l) (.int k t) v) Q F0 s := by
  obtain ⟨n, ho⟩ := hl.exact
  have hT := hl.isList.typeIs
  unfold setItem
  try with_reducible refine wpAny_holding ?_
  first | refine wpAny_bind (wpAny_pure ?_) | skip
  refine wpAny_bind (wpAny_sequenceKey hT (by decide) ?_)
  refine wpAny_bind (wpAny_callSpecial?_slot (name := Str.ofString "__setitem__") hT slot_list_setitem
    (wpAny_call_entry slot_list_setitem hT entry_list_setitem ?_ (args_list_setitem _ _ _)))
  show wpAny _ _ (Builtin.List.listSubscript? (.int k t) >>= _) _ _ s
  refine wpAny_bind (wpAny_listSubscript_int (fitsIndex_of h0 hfit) ?_)
  clear hfit
  obtain ⟨j, rfl⟩ := Int.eq_ofNat_of_zero_le h0
  have hj : j < items.size := by lia
  have hx' : items[j]? = some items[j] := Array.getElem?_eq_getElem hj
  show wpAny _ _ ((seqItemAt l j >>= fun r => pure (r.map (j, ·))) >>= _) _ _ s
  refine wpAny_bind (wpAny_bind (wpAny_seqItemAt ho rfl (wpAny_pure ?_)))
  rw [hx']
  show wpAny _ _ (setSeqItemAt l j v >>= _) _ _ s
  have hfin : PL (s.heap.update l (Obj.mapSeq (·.setIfInBounds j v))) l (items.setIfInBounds j v) := ⟨_, _, Heap.get?_update_self _ ho rfl, rfl, rfl, rfl, rfl⟩
  refine wpAny_bind (wpAny_setSeqItemAt ho rfl ?_)
  first
    | exact wpAny_bind (wpAny_pure (wpAny_pure ⟨.none, rfl, wpAny_pure (hQ _ hfin (Heap.SameBut.update ..))⟩))
    | exact wpAny_pure ⟨.none, rfl, wpAny_pure (hQ _ hfin (Heap.SameBut.update ..))⟩

theorem FnG.tupleOf {l : List VP} (hsz : l.length ≤ sizeLine) : FnG C n (.type "tuple") [vLst l] (vTup l) := fun A S s vs I hA hv => by
  obtain ⟨x, rfl, hx⟩ := hv.one
  obtain ⟨a, ws, rfl, ha, hl, hw⟩ := hx
  refine call_tuple_list hl.isList (fun h' hk => ?_) (by rw [List.size_toArray, hw.length]; exact hsz)
  have g : Grow C S s S { s with heap := h' } := grow_of_kept (tk := s.toks) I hk (fun _ h => h) fun _ h => .inl h
  exact ⟨_, g.trans (grow_push (tk := s.toks) g.inv rfl), pushed_tup g.inv (hw.keep (g.keeps I))⟩

end
end Mine

/-! LAsg -/
namespace Mine
open PySem PySem.W PyProof.Rows

section
variable {C : Cx} {fr : Shape} {n : Nat} {vals vals' : List Slot}

theorem Ex1.assignTuple {es : List Expr} {k : Nat} {tpos pos : Pos} {value : Expr} {ps : List VP} (hv : Ev C fr n vals value (vTup ps)) (hn : Names fr vals es ps vals') (hnd : fr.names.Nodup)
    (hs : ∀ env, swapsWithSole [.Tuple es k tpos] value pos.line env = pure false := by intro _; rfl) (hw : ∀ env, swappedStores [.Tuple es k tpos] value env = pure none := by intro _; rfl) :
    Ex1 C fr n vals (.Assign [.Tuple es k tpos] value pos) (.next vals') := fun hb env A S s F =>
  Assign_Tuple (Gives.seq (q := vNone) (hv hb env A S s F) fun v S₁ s₁ g x =>
    wpAny_mono ((Asg.tuple (C := C) (n := n) hn hnd).2 hb env A S₁ s₁ v (F.grow g) x) (fun _ _ ⟨S₂, st, F'⟩ => ⟨S₂, (F.stepGrow g).trans st, F'⟩) fun _ _ z => z) (hs env) (hw env)

/-- a pair written out and taken apart at once: the last is stored first -/
theorem Ex1.assignSwap {x y : Str} {px py tpos pos : Pos} {k : Nat} {value : Expr} {p q : VP} (i j : Nat) (hi : fr.names[i]? = some x) (hj : fr.names[j]? = some y) (hnd : fr.names.Nodup) (hcx : canStore fr x = true) (hcy : canStore fr y = true)
    (hv : Ev C fr n vals value (vTup [p, q])) (hs : ∀ env, swapsWithSole [.Tuple [.Name x px, .Name y py] k tpos] value pos.line env = pure false := by intro _; rfl)
    (hw : ∀ env : Env, env.scope = fr.scope → swappedStores [.Tuple [.Name x px, .Name y py] k tpos] value env = pure (some [x, y])) :
    Ex1 C fr n vals (.Assign [.Tuple [.Name x px, .Name y py] k tpos] value pos) (.next ((vals.set j (.val q)).set i (.val p))) := fun hb env A S s F => by
  rw [exec_Assign_arm]
  refine wpAny_bind (wpAny_standAt ?_)
  rw [hs]
  refine wpAny_bind (wpAny_pure ?_)
  rw [if_neg (by decide)]
  refine wpAny_bind (Gives.seq (q := vNone) (hv hb env A S s F) fun v S₁ s₁ g z => ?_)
  rw [hw env F.scope]
  refine wpAny_bind (wpAny_pure ?_)
  obtain ⟨a, vs, rfl, ha, ht, hx⟩ := z
  obtain ⟨v1, v2, rfl, h1, h2⟩ := hx.two
  show wpAny C.M A (do
    rule "assign.swapped-stores"
    let items ← unpackItems (.ref a) 2 none
    assignInOrder ([y, x].map fun n => bindName env n) items.reverse
    pure Flow.next : Sem Flow) _ _ s₁
  have F₁ := F.grow g
  refine wpAny_bind (wpAny_rule (wpAny_bind (wpAny_unpackItems_tuple (items := [v1, v2].toArray) F.around.handled ht fun h' he => ?_)))
  have g' : Grow C S₁ s₁ S₁ { s₁ with heap := h' } := grow_of_kept (tk := s₁.toks) F₁.inv (fun b o e => he b o (Nat.ne_of_lt (Heap.lt_size e)) e) (fun _ h => h) fun _ h => .inl h
  have F₂ := F₁.grow g'
  show wpAny C.M A (assignInOrder [bindName env y, bindName env x] [v2, v1] >>= fun _ => (pure Flow.next : Sem Flow)) _ _ _
  refine wpAny_bind (wpAny_assignInOrder_more (wpAny_bindName (F₂.store hj hnd hcy (q.keep (g'.keeps F₁.inv) h2) fun s₃ st₃ F₃ _ => ?_)))
  refine wpAny_assignInOrder_more (wpAny_bindName (F₃.store hi hnd hcx (p.keep (st₃.keeps F₂.inv) (p.keep (g'.keeps F₁.inv) h1)) fun s₄ st₄ F₄ _ => ?_))
  exact wpAny_assignInOrder_none (wpAny_pure ⟨S₁, ((F.stepGrow g).trans ((F₁.stepGrow g').trans (st₃.trans st₄))), F₄⟩)

theorem Ex1.assign3 {x y z : Str} {px py pz pos : Pos} {e : Expr} {p : VP} (i j k : Nat) (hi : fr.names[i]? = some x) (hj : fr.names[j]? = some y) (hk : fr.names[k]? = some z) (hnd : fr.names.Nodup)
    (hcx : canStore fr x = true) (hcy : canStore fr y = true) (hcz : canStore fr z = true) (h : Ev C fr n vals e p) (hw : ∀ env, swappedStores [.Name x px, .Name y py, .Name z pz] e env = pure none := by intro _; rfl) :
    Ex1 C fr n vals (.Assign [.Name x px, .Name y py, .Name z pz] e pos) (.next (((vals.set i (.val p)).set j (.val p)).set k (.val p))) := fun hb env A S s F =>
  wpAny_Assign_three (Gives.seq (q := vNone) (h hb env A S s F) fun v S₁ s₁ g hp =>
    wpAny_assign_Name ((F.grow g).store hi hnd hcx hp fun s₂ st₂ F₂ _ => wpAny_assign_Name (F₂.store hj hnd hcy (p.keep (st₂.keeps g.inv) hp) fun s₃ st₃ F₃ _ =>
      wpAny_assign_Name (F₃.store hk hnd hcz (p.keep (st₃.keeps F₂.inv) (p.keep (st₂.keeps g.inv) hp)) fun s₄ st₄ F₄ _ => ⟨S₁, (F.stepGrow g).trans (st₂.trans (st₃.trans st₄)), F₄⟩)))) rfl (hw env)

/-- an item of a list of one's own -/
theorem Ev.ownItem {x : Str} {np pos : Pos} {ie : Expr} {l : List VP} {k : Int} {p : VP} (i : Nat) (hi : fr.names[i]? = some x) (hv : vals[i]? = some (.own l)) (hk : Ev C fr n vals ie (vInt k)) (h0 : 0 ≤ k) (hs : k < 2 ^ 63) (hp : l[k.toNat]? = some p)
    (hd : (x == ("__debug__" : Str)) = false := by decide) (hn : (x == ("__classdict__" : Str)) = false := by decide) : Ev C fr n vals (.Subscript (.Name x np) ie pos) p := fun hb env A S s F => by
  obtain ⟨f, hsl⟩ := F.slots
  obtain ⟨hH, nS, nb, vs, hl, hx⟩ := hsl.own hi hv
  refine Subscript_ (wpAny_Name (hH.load F.kind hn ?_) hd)
  refine Gives.seq (q := p) (hk hb env A S s F) fun iv S₁ s₁ g hiv => ?_
  obtain ⟨t, rfl⟩ := int_of hiv
  obtain ⟨_, _, _, vs', hl', hx'⟩ := (hsl.grow F.inv g).own hi hv
  obtain ⟨w, hw, hpw⟩ := hx'.get hp
  obtain ⟨ops, ho⟩ := subscripted_ops ie (.ref (f i)) (.int k t)
  exact tail_any hl'.isList.typeIs slot_list_getitem.lookup (wpAny_getItem_list hl'.isList h0 hs (by simpa using hw) ⟨S₁, g, hpw⟩) ho

theorem Ex1.setItem {x : Str} {np spos pos : Pos} {ie e : Expr} {l : List VP} {k : Int} {p : VP} (i : Nat) (hi : fr.names[i]? = some x) (hv : vals[i]? = some (.own l)) (he : Ev C fr n vals e p) (hk : Ev C fr n vals ie (vInt k)) (h0 : 0 ≤ k) (hs : k < 2 ^ 63) (hlt : k < l.length)
    (hd : (x == ("__debug__" : Str)) = false := by decide) (hn : (x == ("__classdict__" : Str)) = false := by decide) (hsw : ∀ env, swapsWith e (some (.Subscript (.Name x np) ie spos)) pos.line env = pure false := by intro _; rfl) :
    Ex1 C fr n vals (.Assign [.Subscript (.Name x np) ie spos] e pos) (.next (vals.set i (.own (l.set k.toNat p)))) := fun hb env A S s F => by
  obtain ⟨f, hsl⟩ := F.slots
  refine wpAny_Assign_Subscript (Gives.seq (q := p) (he hb env A S s F) fun v S₁ s₁ g hp => ?_) (hsw env)
  have F₁ := F.grow g
  have hsl₁ := hsl.grow F.inv g
  obtain ⟨hH, _⟩ := hsl₁.own hi hv
  refine wpAny_Name (hH.load F.kind hn ?_) hd
  refine Gives.seq (q := p) (hk hb env A S₁ s₁ F₁) fun iv S₂ s₂ g₂ hiv => ?_
  obtain ⟨t, rfl⟩ := int_of hiv
  have F₂ := F₁.grow g₂
  have hsl₂ := hsl₁.grow F₁.inv g₂
  obtain ⟨_, _, _, vs, hl, hx⟩ := hsl₂.own hi hv
  refine setItem_PL hl h0 hs (by rw [List.size_toArray, hx.length]; exact hlt) fun h' hl' hs' => ?_
  have q := F₂.mutate (tk := s₂.toks) (vs' := vs.set k.toNat v) (l' := l.set k.toNat p) hsl₂ hi hv hl hs' (by simpa using hl') (hx.set _ (p.mono g₂.sub (p.keep (g₂.keeps g.inv) hp)))
  exact ⟨S₂, ((F.stepGrow g).trans (F₁.stepGrow g₂)).trans q.1, q.2⟩

end
end Mine

/-! LInst -/
set_option maxRecDepth 10000
namespace Mine
open PySem PySem.W PyProof.Rows

/-! attributes -/
noncomputable def EntOk (S : ASet) (h : Heap) (e : DictEntry) (a : Str × VP) : Prop := (∃ t, e.key = .str a.1 t) ∧ a.2.P S h e.val
noncomputable def AttrsOk (S : ASet) (h : Heap) : List DictEntry → List (Str × VP) → Prop
  | [], [] => True
  | e :: r, a :: q => EntOk S h e a ∧ AttrsOk S h r q
  | _, _ => False
theorem AttrsOk.mono {S S' : ASet} {h : Heap} (hs : ∀ a, S a → S' a) : ∀ {es : List DictEntry} {as : List (Str × VP)}, AttrsOk S h es as → AttrsOk S' h es as
  | [], [], _ => trivial
  | _ :: _, a :: _, ⟨⟨x, y⟩, z⟩ => ⟨⟨x, a.2.mono hs y⟩, z.mono hs⟩
  | [], _ :: _, x => x.elim
  | _ :: _, [], x => x.elim
theorem AttrsOk.keep {S : ASet} {h h' : Heap} (hk : ∀ a o, S a → h.get? a = some o → h'.get? a = some o) : ∀ {es : List DictEntry} {as : List (Str × VP)}, AttrsOk S h es as → AttrsOk S h' es as
  | [], [], _ => trivial
  | _ :: _, a :: _, ⟨⟨x, y⟩, z⟩ => ⟨⟨x, a.2.keep hk y⟩, z.keep hk⟩
  | [], _ :: _, x => x.elim
  | _ :: _, [], x => x.elim
theorem AttrsOk.length {S : ASet} {h : Heap} : ∀ {es : List DictEntry} {as : List (Str × VP)}, AttrsOk S h es as → es.length = as.length
  | [], [], _ => rfl
  | _ :: _, _ :: _, ⟨_, z⟩ => by rw [List.length_cons, List.length_cons, z.length]
  | [], _ :: _, x => x.elim
  | _ :: _, [], x => x.elim
theorem isStr_str (x y : Str) (t : Tok) : (Value.str x t).isStr y = (x == y) := rfl
theorem AttrsOk.noRef {S : ASet} {h : Heap} : ∀ {es : List DictEntry} {as : List (Str × VP)}, AttrsOk S h es as → es.any (·.refKey) = false
  | [], [], _ => rfl
  | e :: _, _ :: _, ⟨⟨⟨t, x⟩, _⟩, z⟩ => by
    rw [List.any_cons, z.noRef, Bool.or_false]
    unfold DictEntry.refKey; rw [x]
  | [], _ :: _, x => x.elim
  | _ :: _, [], x => x.elim
theorem AttrsOk.find {S : ASet} {h : Heap} (name : Str) : ∀ {es : List DictEntry} {as : List (Str × VP)}, AttrsOk S h es as →
    (∀ p, as.lookup name = some p → ∃ e, es.find? (·.key.isStr name) = some e ∧ p.P S h e.val) ∧ (as.lookup name = none → es.find? (·.key.isStr name) = none)
  | [], [], _ => ⟨(fun p e => by cases e), fun _ => rfl⟩
  | e :: es, (n, q) :: as, ⟨⟨⟨t, x⟩, y⟩, z⟩ => by
    have ih := z.find name
    rw [List.find?_cons, List.lookup_cons, x, isStr_str]
    have : (n == name) = (name == n) := Bool.beq_comm
    rw [this]
    cases hq : (name == n) with
    | true => exact ⟨fun p ep => ⟨e, rfl, by cases ep; exact y⟩, fun ep => by cases ep⟩
    | false => exact ih
  | [], _ :: _, x => x.elim
  | _ :: _, [], x => x.elim
theorem AttrsOk.get {S : ASet} {h : Heap} {es : List DictEntry} {as : List (Str × VP)} (x : AttrsOk S h es as) {name : Str} {p : VP} (e : as.lookup name = some p) : ∃ v, getL name es = some (some v) ∧ p.P S h v := by
  obtain ⟨en, e1, e2⟩ := (x.find name).1 p e
  exact ⟨en.val, by unfold getL; rw [e1], e2⟩
theorem AttrsOk.miss {S : ASet} {h : Heap} {es : List DictEntry} {as : List (Str × VP)} (x : AttrsOk S h es as) {name : Str} (e : as.lookup name = none) : getL name es = some none := by
  unfold getL; rw [(x.find name).2 e]; dsimp only; rw [x.noRef]; rfl
theorem AttrsOk.put {S : ASet} {h : Heap} {name : Str} {hsh : Int} {t : Tok} {v : Value} {p : VP} (hv : p.P S h v) : ∀ {es : List DictEntry} {as : List (Str × VP)}, AttrsOk S h es as → as.lookup name = none →
    AttrsOk S h (putL name hsh (.str name t) v es) (as ++ [(name, p)])
  | [], [], _, _ => ⟨⟨⟨t, rfl⟩, hv⟩, trivial⟩
  | e :: es, (n, q) :: as, ⟨⟨⟨t', x⟩, y⟩, z⟩, hn => by
    rw [List.lookup_cons] at hn
    have e1 : e.key.isStr name = false := by
      rw [x, isStr_str, show (n == name) = (name == n) from Bool.beq_comm]
      cases hq : (name == n) with
      | true => rw [hq] at hn; cases hn
      | false => rfl
    have e2 : as.lookup name = none := by
      cases hq : (name == n) with
      | true => rw [hq] at hn; cases hn
      | false => rw [hq] at hn; exact hn
    unfold putL
    rw [e1, if_neg (by decide)]
    exact ⟨⟨⟨t', x⟩, y⟩, AttrsOk.put hv z e2⟩
  | [], _ :: _, x, _ => x.elim
  | _ :: _, [], x, _ => x.elim

/-- an thing, made -/
noncomputable def vObj (Cl : Addr) (attrs : List (Str × VP)) : VP where
  P := fun S h v => ∃ x dx es m, v = .ref x ∧ S x ∧ S dx ∧ h.get? x = some (instObj Cl dx) ∧ h.get? dx = some (dictOf es m) ∧ AttrsOk S h es attrs
  mono := fun hs x => by obtain ⟨x, dx, es, m, e, h1, h2, h3, h4, h5⟩ := x; exact ⟨x, dx, es, m, e, hs _ h1, hs _ h2, h3, h4, h5.mono hs⟩
  keep := fun hk x => by obtain ⟨x, dx, es, m, e, h1, h2, h3, h4, h5⟩ := x; exact ⟨x, dx, es, m, e, h1, h2, hk _ _ h1 h3, hk _ _ h2 h4, h5.keep hk⟩

noncomputable def VP.Handed (p : VP) : Prop := ∀ S h v, p.P S h v → handedIn v = true
theorem handed_int {i} : (vInt i).Handed := fun _ _ _ ⟨_, e⟩ => by rw [e]; rfl
theorem handed_bool {i} : (vBool i).Handed := fun _ _ _ e => by rw [show _ = _ from e]; rfl
theorem handed_s {i} : (vS i).Handed := fun _ _ v x => by obtain ⟨t, e⟩ := x; rw [e]; rfl
theorem handed_tup {i} : (vTup i).Handed := fun _ _ _ ⟨_, _, e, _⟩ => by rw [e]; rfl
section
variable {C : Cx} {fr : Shape} {n : Nat} {vals vals' : List Slot} {K : Frag}

theorem Inv.frag {S : ASet} {s : Shared} (I : Inv C S s) (X : K.In C.base) : K.In s.heap := fun a o e => (I.base a o (X a o e)).1

theorem Ev.attrOf {e : Expr} {name : Str} {pos : Pos} {p r : VP} (h : Ev C fr n vals e p)
    (hg : ∀ (A : Around) S s v, AOk n A → Inv C S s → p.P S s.heap v → wpAny C.M A (getAttr v name true) (fun w s' => ∃ S', Grow C S s S' s' ∧ r.P S' s'.heap w) F0 s)
    (hbase : ∀ env, attributeBase e name env (eval e env) = eval e env := by intro _; rfl) : Ev C fr n vals (.Attribute e name pos) r := fun hb env A S s F => by
  refine (arm_eval_Attribute e name pos env) ▸ ?_
  rw [hbase]
  refine wpAny_bind (Gives.seq (q := r) (h hb env A S s F) fun v S₁ s₁ g hp => ?_)
  refine wpAny_bind (wpAny_standAt (wpAny_bind (wpAny_holding (wpAny_mono (hg A S₁ s₁ v F.around g.inv hp) (fun w s' ⟨S', g', hr⟩ => ?_) fun _ _ z => z))))
  exact wpAny_bind (wpAny_letTemporaryGo (wpAny_pure ⟨S', g.trans g', hr⟩))

/-- a read of an attribute of an thing -/
theorem Ev.attr {e : Expr} {name : Str} {pos : Pos} {Cl : Addr} {attrs : List (Str × VP)} {p : VP} {attr : Option Value} (h : Ev C fr n vals e (vObj Cl attrs)) (X : K.In C.base) (hg : plainGet K Cl name = true) (hh : hasDictIn K Cl = true)
    (ha : findIn K (.ref Cl) name = some attr) (hn : noGet K attr = true) (hp : attrs.lookup name = some p) (hd : p.Handed) (hbase : ∀ env, attributeBase e name env (eval e env) = eval e env := by intro _; rfl) :
    Ev C fr n vals (.Attribute e name pos) p :=
  Ev.attrOf h (fun A S s v _ I pq => by
    obtain ⟨x, dx, es, m, e1, h1, h2, h3, h4, h5⟩ := pq
    subst e1
    obtain ⟨v, hv, hpv⟩ := h5.get hp
    exact get_value (I.frag X) (od := some (dictOf es m)) ⟨h3, rfl, rfl, h4⟩ (plainGet_of hg).1 (findObj_own hh ha hn ((lookIn_dict name es m).trans hv)) (hd _ _ _ hpv) ⟨S, Grow.tok I _, hpv⟩) hbase

/-- a method of an thing -/
theorem Ev.callMeth {o : Expr} {name : Str} {apos pos : Pos} {args : List Expr} {p : VP} {ps : List VP} {r : VP} {f : Value} (ho : Ev C fr n vals o p) (hk : KeepOk C f) (ha : EvArgs C fr n vals args ps)
    (hm : ∀ (A : Around) S s v (pl : Sem Bool) (Q : Value × List Value → Shared → Prop), AOk n A → Inv C S s → p.P S s.heap v → Q (f, [v]) s → wpAny C.M A (getMethod v name pl) Q F0 s)
    (hc : FnG C n f (p :: ps) r) (hbase : ∀ env, attributeBase o name env (eval o env) = eval o env := by intro _; rfl) (hlen : args.length < 30 := by decide) (hline : (apos.endLine == pos.line) = true := by rfl) :
    Ev C fr n vals (.Call (.Attribute o name apos) args [] pos) r := fun hb env A S s F => by
  refine (arm_eval_Call o name apos args [] pos env) ▸ ?_
  rw [hbase]
  refine wpAny_bind (Gives.seq (q := r) (ho hb env A S s F) fun v S₁ s₁ g hp => ?_)
  refine wpAny_bind (wpAny_standAt ?_)
  have hs := ha.1 env
  have hs' : (backTo pos (starEach args env)).all (fun x => !x.1) = true := by
    unfold backTo
    rw [List.all_map]
    have := hs.1
    rw [List.any_eq_false] at this
    rw [List.all_eq_true]
    intro y hy
    have := this y hy
    show (!y.1) = true
    cases hq : y.1 with
    | false => rfl
    | true => exact absurd hq this
  have hform : methodCallForm (args.length + ([] : List Keyword).length) (backTo pos (starEach args env)) (backToKw pos (keywordEach [] env)) = true := by
    unfold methodCallForm
    rw [hs']
    show (true && true && decide (args.length + 0 + 0 < 30)) = true
    simpa using hlen
  have hpos : methodCallPos true o env apos pos = pure pos := by unfold methodCallPos; simp [hline]
  unfold methodCall calleeOf
  rw [hform, if_pos rfl]
  refine wpAny_bind (wpAny_holding (hm A S₁ s₁ v _ _ F.around g.inv hp ?_))
  refine wpAny_bind (wpAny_of_eq hpos ?_)
  exact callWith_g (first := [v]) (F.grow g) hk ha fun S₂ s₂ vs g₂ y => wpAny_mono (hc A S₂ s₂ (v :: vs) g₂.inv F.around ⟨p.mono g₂.sub (p.keep (g₂.keeps g.inv) hp), y⟩) (fun _ _ ⟨S₃, g₃, z⟩ => ⟨S₃, (g.trans g₂).trans g₃, z⟩) fun _ _ z => z

theorem Ev.methStr {o : Expr} {name : Str} {apos pos : Pos} {args : List Expr} {l : List Nat} {ps : List VP} {r : VP} {id : String} (ho : Ev C fr n vals o (vS l)) (ha : EvArgs C fr n vals args ps) (hc : FnG C n (.builtin id) (vS l :: ps) r)
    (slot : PySem.Slot "str" name id) (hty : typeOf (.builtin id) = pure (.type "method_descriptor"))
    (hbase : ∀ env, attributeBase o name env (eval o env) = eval o env := by intro _; rfl) (hlen : args.length < 30 := by decide) (hline : (apos.endLine == pos.line) = true := by rfl) :
    Ev C fr n vals (.Call (.Attribute o name apos) args [] pos) r :=
  Ev.callMeth ho (.builtin id) ha (fun A S s v pl Q _ I ⟨t, e⟩ hQ => by
    subst e
    have pa : PlainAttrs "str" := PySem.F.plainAttrs_str
    have ti : s.TypeIs (.str ⟨l.toArray⟩ t) "str" := typeIs_str _ _ _
    have hd : ∀ a, Value.str ⟨l.toArray⟩ t = .ref a → ∃ o, s.heap.get? a = some o ∧ o.dict = Option.none := fun a q => Value.noConfusion q
    exact getMethod_builtin (M := C.M) (A := A) (E := F0) (s := s) (T := "str") (name := name) (id := id) (pl := pl) (Q := Q) ti pa slot hty hd hQ) hc hbase hlen hline

theorem Ev.methObj {o : Expr} {name : Str} {apos pos : Pos} {args : List Expr} {Cl f : Addr} {attrs : List (Str × VP)} {ps : List VP} {r : VP} (ho : Ev C fr n vals o (vObj Cl attrs)) (X : K.In C.base) (hg : plainGet K Cl name = true)
    (hf : findIn K (.ref Cl) name = some (some (.ref f))) (ht : isFn K (.ref f) = true) (hl : attrs.lookup name = Option.none) (hk : KeepOk C (.ref f)) (ha : EvArgs C fr n vals args ps) (hc : FnG C n (.ref f) (vObj Cl attrs :: ps) r)
    (hbase : ∀ env, attributeBase o name env (eval o env) = eval o env := by intro _; rfl) (hlen : args.length < 30 := by decide) (hline : (apos.endLine == pos.line) = true := by rfl) :
    Ev C fr n vals (.Call (.Attribute o name apos) args [] pos) r :=
  Ev.callMeth ho hk ha (fun A S s v pl Q _ I ⟨x, dx, es, m, e1, h1, h2, h3, h4, h5⟩ hQ => by
    subst e1
    exact method_fn (I.frag X) (od := some (dictOf es m)) ⟨h3, rfl, rfl, h4⟩ (plainGet_of hg).1 (plainGet_of hg).2 hf (beq_iff_eq.mp ht) (by show (lookIn name (dictOf es m)).map _ = _; rw [lookIn_dict, h5.miss hl]; rfl) hQ) hc hbase hlen hline

/-- an attribute of a class -/
theorem Ev.clsAttr {e : Expr} {name : Str} {pos : Pos} {Cl : Addr} {a mc : Value} {p : VP} (h : Ev C fr n vals e (vIs (.ref Cl))) (X : K.In C.base) (hr : readsIn K Cl mc = true) (hf : findCls K (.ref Cl) mc name = some (.val a)) (hh : handedIn a = true)
    (hp : ∀ S h, p.P S h a) (hbase : ∀ env, attributeBase e name env (eval e env) = eval e env := by intro _; rfl) : Ev C fr n vals (.Attribute e name pos) p :=
  Ev.attrOf h (fun A S s v _ I e1 => by
    cases (show v = _ from e1)
    exact cls_value (I.frag X) hr hf hh ⟨S, Grow.tok I _, hp _ _⟩) hbase

end
end Mine

/-! LInit -/
set_option maxRecDepth 10000
namespace Mine
open PySem PySem.W PyProof.Rows

section
variable {C : Cx} {fr : Shape} {n : Nat} {vals vals' : List Slot} {K : Frag}

/-- one address changes that the frame does not hold as its own: a dict -/
theorem FrameOk.foreignMove {hb env A S s} {d : Addr} {h' : Heap} {tk : Nat} {es : Array DictEntry} {m : Nat} {od : Obj} (F : FrameOk C fr n hb env A S s vals) (hs : Heap.SameBut d s.heap h') (hd : s.heap.get? d = some od) (hdd : od.data = .dict es m) (hbd : hb d) (nS : ¬ S d)
    (ha : (h'.get? d).isSome = true) : FrameOk C fr n hb env A S { s with heap := h', toks := tk } vals := by
  have nt : ¬ C.isTab d := F.inv.notab_of hd fun vs q => by rw [hdd] at q; cases q
  have st : Step C (fun _ => False) S s S { s with heap := h', toks := tk } := step_sameBut F.inv hs nS nt (fun q => q)
  have nl : env.locals ≠ d := fun q => F.locNot.2 (q ▸ hbd)
  have cellNe : ∀ {c v}, s.heap.IsCell c v → c ≠ d := fun {c v} ⟨o, e, hc⟩ q => by
    subst q; rw [hd] at e; cases e; rw [hdd] at hc; cases hc
  have listNe : ∀ {c v}, PL s.heap c v → c ≠ d := fun {c v} ⟨o, k, e, _, _, hc, _⟩ q => by
    subst q; rw [hd] at e; cases e; rw [hdd] at hc; cases hc
  refine ⟨st.inv, F.scope, F.kind, F.globals, F.builtins, F.around, fun b q => ?_, ?_, F.locNot, fun x c hc => ?_, F.apart, F.ownc, ?_⟩
  · show (h'.get? b).isSome = true
    by_cases q2 : b = d
    · subst q2; exact ha
    · rw [hs.2 b q2]; exact F.alive b q
  · obtain ⟨mm, x⟩ := F.ns; exact ⟨mm, x.sameBut hs nl⟩
  · obtain ⟨v, x⟩ := F.cells x c hc
    have ne := cellNe x
    obtain ⟨o, e, hc⟩ := x
    exact ⟨v, o, (hs.2 c ne).trans e, hc⟩
  · obtain ⟨f, x⟩ := F.slots
    refine ⟨f, x.move (fun y v hy => ?_) (fun _ h => h) (fun a o ha e => (hs.2 a (fun q => nS (q ▸ ha))).trans e) fun a items h1 h2 x => ⟨list_sameBut x hs (listNe x), h1⟩⟩
    rcases hy with ⟨a, mm, b, e⟩ | ⟨a, c, b, e⟩
    · exact .inl ⟨a, mm, b.sameBut hs nl, e⟩
    · have ne := cellNe e
      obtain ⟨o, e1, e2⟩ := e
      exact .inr ⟨a, c, b, o, (hs.2 c ne).trans e1, e2⟩

structure InitOk (C : Cx) (fr : Shape) (n : Nat) (Cl x dx : Addr) (hb₀ hb₁ : ASet) (env : Env) (A : Around) (S : ASet) (s : Shared) (vals : List Slot) (attrs : List (Str × VP)) : Prop where
  frame : FrameOk C fr n hb₁ env A S s vals
  px : hb₁ x
  pd : hb₁ dx
  nx : ¬ S x
  nd : ¬ S dx
  le : ∀ b, hb₀ b → hb₁ b
  ox : ¬ hb₀ x
  od : ¬ hb₀ dx
  inst : s.heap.get? x = some (instObj Cl dx)
  attr : ∃ es m, s.heap.get? dx = some (dictOf es m) ∧ AttrsOk S s.heap es attrs

noncomputable def ExI (C : Cx) (fr : Shape) (n : Nat) (Cl x : Addr) (vals : List Slot) (attrs : List (Str × VP)) (ss : List Stmt) (attrs' : List (Str × VP)) : Prop :=
  ∀ dx hb₀ hb₁ env A S s, InitOk C fr n Cl x dx hb₀ hb₁ env A S s vals attrs →
    wpAny C.M A (execs ss env) (fun f s' => f = .next ∧ ∃ S' vals', Step C hb₀ S s S' s' ∧ InitOk C fr n Cl x dx hb₀ hb₁ env A S' s' vals' attrs') F0 s

variable {Cl x : Addr} {attrs attrs' : List (Str × VP)}

theorem ExI.nil : ExI C fr n Cl x vals attrs [] attrs := fun _ _ _ _ _ S _ Y => wpAny_execs_nil ⟨rfl, S, vals, .refl Y.frame.inv, Y⟩

theorem InitOk.step {dx hb₀ hb₁ env A S s S' s'} (Y : InitOk C fr n Cl x dx hb₀ hb₁ env A S s vals attrs) (st : Step C hb₁ S s S' s') (F' : FrameOk C fr n hb₁ env A S' s' vals') : InitOk C fr n Cl x dx hb₀ hb₁ env A S' s' vals' attrs := by
  obtain ⟨es, m, h1, h2⟩ := Y.attr
  refine ⟨F', Y.px, Y.pd, fun q => (st.new _ q).elim Y.nx fun e => e Y.px, fun q => (st.new _ q).elim Y.nd fun e => e Y.pd, Y.le, Y.ox, Y.od, st.kept _ _ (Y.frame.inv.notab_of Y.inst fun vs q => by cases q) (.inl Y.px) Y.inst, es, m,
    st.kept _ _ (Y.frame.inv.notab_of h1 fun vs q => by cases q) (.inl Y.pd) h1, (h2.keep (st.keeps Y.frame.inv)).mono st.sub⟩

theorem ExI.cons {st : Stmt} {rest : List Stmt} (h1 : Ex1 C fr n vals st (.next vals')) (h2 : ExI C fr n Cl x vals' attrs rest attrs') : ExI C fr n Cl x vals attrs (st :: rest) attrs' := fun dx hb₀ hb₁ env A S s Y =>
  wpAny_execs_cons (wpAny_mono (h1 hb₁ env A S s Y.frame) (fun f s' pq => by
    obtain ⟨S', st, y⟩ := pq
    cases f <;> first | exact y.elim | skip
    refine wpAny_mono (h2 dx hb₀ hb₁ env A S' s' (Y.step st y)) (fun f s'' ⟨e, S'', vs, st', z⟩ => ⟨e, S'', vs, (st.weaken Y.le).trans st', z⟩) fun _ _ q => q) fun _ _ q => q)

theorem ExI.freeze {ss : List Stmt} {y : Str} {l : List VP} (i : Nat) (hi : fr.names[i]? = some y) (hv : vals[i]? = some (.own l)) (h : ExI C fr n Cl x (vals.set i (.val (vLst l))) attrs ss attrs') : ExI C fr n Cl x vals attrs ss attrs' := fun dx hb₀ hb₁ env A S s Y => by
  obtain ⟨b, its, _, _, st, F'⟩ := Y.frame.freeze hi hv
  exact wpAny_mono (h dx hb₀ hb₁ env A _ s (Y.step st F')) (fun f s'' ⟨e, S'', vs, st', z⟩ => ⟨e, S'', vs, (st.weaken Y.le).trans st', z⟩) fun _ _ q => q

theorem sameBut_update {h : Heap} {a : Addr} {f : Obj → Obj} : Heap.SameBut a h (h.update a f) := ⟨Heap.size_update _ _ _, fun b hb => Heap.get?_update_ne _ _ _ _ hb⟩

theorem setAttr_dict {prog : Program} {w : World} {A : Around} {E : Value → Shared → Prop} {s : Shared} {dx : Addr} {es : List DictEntry} {m : Nat} {name : Str} {v : Value} {Q : Unit → Shared → Prop} (X : K.In s.heap) (hx : s.heap.get? x = some (instObj Cl dx)) (hd : s.heap.get? dx = some (dictOf es m))
    (hs : findIn K (.ref Cl) "__setattr__" = some (some (.builtin "object.__setattr__"))) (hp : plainOver K Cl = true) (ht : takerIn K Cl name = some none) (hh : hasDictIn K Cl = true) (hr : es.any (·.refKey) = false) (hz : (putL name (PyData.keyHash w.params name) (.str name (s.toks + 1)) v es).length ≤ 1000)
    (h : ∀ h' tk, Heap.SameBut dx s.heap h' → h'.get? dx = some (dictOf (putL name (PyData.keyHash w.params name) (.str name (s.toks + 1)) v es) (putN name es m)) → Q () { s with heap := h', toks := tk }) :
    wpAny (model prog w) A (setAttr (.ref x) name v) Q E s := by
  have I : InstAt s.heap x (instObj Cl dx) Cl (some (dictOf es m)) := ⟨hx, rfl, rfl, hd⟩
  refine set_plain X I hs (osa_open (s := { s with toks := s.toks + 1 }) X I hp ht fun b => ?_)
  obtain ⟨cd, hc, hd'⟩ := any_some hh
  have U := putName_dict name (PyData.keyHash w.params name) (.str name (s.toks + 1)) v es m
  refine wpAny_bind (wpAny_pure (wpAny_bind (wpAny_bind (wpAny_loadPart hx (wpAny_bind ((looks_clsIn (h := ({ s with toks := s.toks + 1 } : Shared).heap) X hc).here (s := { s with toks := s.toks + 1 }) ?_))))))
  rw [hd']
  refine wpAny_pure (a := some dx) (wpAny_bind (wpAny_pure (wpAny_bind ?_)))
  unfold nsSet
  refine wpAny_bind (wpAny_bind (wpAny_askSetting (wpAny_pure (wpAny_bind (wpAny_mkText (wpAny_bind (wpAny_loadPart hd ?_)))))))
  dsimp only
  have c : (!es.toArray.any (·.key.isStr name) && es.toArray.any (·.refKey)) = false := by
    rw [← Array.any_toList, ← Array.any_toList, hr, Bool.and_false]
  rw [aRefKeyMayBeTheName_at, c]
  refine wpAny_updatePart hd ?_
  have D' := Heap.get?_update_self (Obj.putName name (PyData.keyHash w.params name) (.str name (s.toks + 1)) v) hd (by rw [U]; rfl)
  rw [U] at D'
  refine wpAny_bind (wpAny_lookBehind D' (pastItsLine_dict (by rw [List.size_toArray, sizeLine_eq]; lia)) ?_)
  exact wpAny_pure (h _ _ sameBut_update D')

/-- self.name = e -/
theorem ExI.set {rest : List Stmt} {sn name : Str} {np apos pos : Pos} {e : Expr} {p : VP} (i : Nat) (hi : fr.names[i]? = some sn) (hv : vals[i]? = some (.val (vIs (.ref x)))) (he : Ev C fr n vals e p) (X : K.In C.base)
    (hs : findIn K (.ref Cl) "__setattr__" = some (some (.builtin "object.__setattr__"))) (hp : plainOver K Cl = true) (ht : takerIn K Cl name = some none) (hh : hasDictIn K Cl = true) (hn : attrs.lookup name = none) (hz : attrs.length < 100)
    (h2 : ExI C fr n Cl x vals (attrs ++ [(name, p)]) rest attrs')
    (hd : (sn == ("__debug__" : Str)) = false := by decide) (hcn : (sn == ("__classdict__" : Str)) = false := by decide) (hsw : ∀ env, swapsWith e (some (.Attribute (.Name sn np) name apos)) pos.line env = pure false := by intro _; rfl) :
    ExI C fr n Cl x vals attrs (.Assign [.Attribute (.Name sn np) name apos] e pos :: rest) attrs' := fun dx hb₀ hb₁ env A S s Y => by
  refine wpAny_execs_cons (plainObj_wpAny_Assign_Attribute (Gives.seq (q := p) (he hb₁ env A S s Y.frame) fun v S₁ s₁ g hpv => ?_) (hsw env))
  have Y₁ := Y.step (Y.frame.stepGrow g) (Y.frame.grow g)
  have F₁ := Y₁.frame
  obtain ⟨f, _, hsl, _⟩ := F₁.slots
  obtain ⟨v', y, z⟩ := hsl i sn _ hi hv
  cases (show v' = .ref x from z)
  refine wpAny_Name (y.load F₁.kind hcn ?_) hd
  obtain ⟨es, m, h1, h2'⟩ := Y₁.attr
  have hlen : ∀ t : Tok, (putL name (PyData.keyHash C.w.params name) (.str name t) v es).length ≤ 1000 := fun t => by
    rw [(AttrsOk.put (hsh := PyData.keyHash C.w.params name) (t := t) hpv h2' hn).length, List.length_append]
    simp only [List.length_cons, List.length_nil]; lia
  refine setAttr_dict (F₁.inv.frag X) Y₁.inst h1 hs hp ht hh h2'.noRef (hlen _) fun h' tk hsb hd' => ?_
  have F₂ : FrameOk C fr n hb₁ env A S₁ { s₁ with heap := h', toks := tk } vals := F₁.foreignMove hsb h1 rfl Y₁.pd Y₁.nd (by rw [hd']; rfl)
  have nt : ¬ C.isTab dx := F₁.inv.notab_of h1 fun vs q => by cases q
  have st : Step C hb₀ S₁ s₁ S₁ { s₁ with heap := h', toks := tk } := step_sameBut F₁.inv hsb Y₁.nd nt Y₁.od
  have xd : x ≠ dx := fun q => by have := Y₁.inst; rw [q, h1] at this; cases this
  have Y₂ : InitOk C fr n Cl x dx hb₀ hb₁ env A S₁ { s₁ with heap := h', toks := tk } vals (attrs ++ [(name, p)]) :=
    ⟨F₂, Y₁.px, Y₁.pd, Y₁.nx, Y₁.nd, Y₁.le, Y₁.ox, Y₁.od, (hsb.2 x xd).trans Y₁.inst, _, _, hd', (AttrsOk.put hpv h2' hn).keep (st.keeps F₁.inv)⟩
  exact wpAny_mono (h2 dx hb₀ hb₁ env A S₁ _ Y₂) (fun f s'' ⟨e, S'', vs, st', z⟩ => ⟨e, S'', vs, (((Y.frame.stepGrow g).weaken Y.le).trans st).trans st', z⟩) fun _ _ q => q

/-- for … in self.name -/
theorem ExI.for_ {rest body : List Stmt} {sn name : Str} {tgt : Expr} {np apos pos : Pos} {p : VP} {attr : Option Value} {items : List VP} (i : Nat) (hi : fr.names[i]? = some sn) (hv : vals[i]? = some (.val (vIs (.ref x)))) (X : K.In C.base) (hg : plainGet K Cl name = true) (hh : hasDictIn K Cl = true)
    (ha : findIn K (.ref Cl) name = some attr) (hn : noGet K attr = true) (hp : attrs.lookup name = some p) (hdd : p.Handed) (hI : IterG C p items) (ht : Turns C fr n tgt body vals items (.next vals'))
    (h2 : ExI C fr n Cl x vals' attrs rest attrs')
    (hd : (sn == ("__debug__" : Str)) = false := by decide) (hcn : (sn == ("__classdict__" : Str)) = false := by decide) (hs : ∀ env x, foldedSetIterable (.Attribute (.Name sn np) name apos) env x = pure x := by intro _ _; rfl) :
    ExI C fr n Cl x vals attrs (.For tgt (.Attribute (.Name sn np) name apos) body [] pos :: rest) attrs' := fun dx hb₀ hb₁ env A S s Y => by
  have F := Y.frame
  obtain ⟨f, _, hsl, _⟩ := F.slots
  obtain ⟨v', y, z⟩ := hsl i sn _ hi hv
  cases (show v' = .ref x from z)
  obtain ⟨es, m, h1, h5⟩ := Y.attr
  have hit : Gives C A (eval (.Attribute (.Name sn np) name apos) env) S s p := by
    refine (arm_eval_Attribute (.Name sn np) name apos env) ▸ ?_
    refine wpAny_bind (show wpAny C.M A (eval (.Name sn np) env) _ _ s from wpAny_Name (y.load F.kind hcn ?_) hd)
    obtain ⟨v, hv', hpv⟩ := h5.get hp
    refine wpAny_bind (wpAny_standAt (wpAny_bind (wpAny_holding ?_)))
    refine get_value (F.inv.frag X) (od := some (dictOf es m)) ⟨Y.inst, rfl, rfl, h1⟩ (plainGet_of hg).1 (findObj_own hh ha hn ((lookIn_dict name es m).trans hv')) (hdd _ _ _ hpv) ?_
    exact wpAny_bind (wpAny_letTemporaryGo (wpAny_pure ⟨S, Grow.tok F.inv _, hpv⟩))
  refine wpAny_execs_cons (wpAny_For (Gives.seq (q := p) hit fun v S₁ s₁ g x => ?_) (hs env))
  refine wpAny_mono (hI A S₁ s₁ v g.inv (F.around.le (Nat.zero_le _)) x) (fun it s₂ pq => ?_) fun _ _ z => z
  obtain ⟨I, wr, S₂, e, g₂, hi, nn⟩ := pq
  subst e
  have F₂ := ((F.grow g).grow g₂)
  have nb : ∀ a ∈ wr, ¬ hb₁ a := fun a ha q => (nn a ha).2 (g.alive (F.alive a q))
  refine codeAny_mono (ht.loop (F₂.protect hi.foreign) hi (fun a ha => (nn a ha).1) nb) fun r s' y => ?_
  cases r with
  | error e => exact y.elim
  | ok f =>
    obtain ⟨S', st, y⟩ := y
    have st' := ((F.stepGrow g).trans ((F.grow g).stepGrow g₂)).trans st
    cases f <;> first | exact y.elim | skip
    exact wpAny_mono (h2 dx hb₀ hb₁ env A S' s' (Y.step st' y)) (fun f s'' ⟨e, S'', vs, st'', z⟩ => ⟨e, S'', vs, (st'.weaken Y.le).trans st'', z⟩) fun _ _ q => q

theorem AOk.make {A : Around} {a : Addr} {rest : List Value} {kw : List (Str × Value)} (x : AOk (n + 1) A) : AOk n (A.under (.builtin "type.__call__" ⟨.ref a :: rest, kw⟩)) := by
  have h1 : (Code.builtin "type.__call__" ⟨.ref a :: rest, kw⟩).weight = 1 := rfl
  have h2 : (Code.builtin "type.__call__" ⟨.ref a :: rest, kw⟩).cUnits = 1 := rfl
  refine ⟨x.handled, ?_, ?_⟩
  · have := x.depth; show A.depth + _ + n < _; rw [h1]; lia
  · have := x.units; show A.units + _ + 20 * n + 100 < _; rw [h2]; lia

theorem KeepOk.cls (X : K.In C.base) {a : Addr} (h : keepIn K (.ref a) = true) : KeepOk C (.ref a) := fun h' k =>
  let ⟨q, e, l⟩ := looks_keep (M := C.M) (K := K) (h := h') (f := .ref a) h (fun b o e => k b o (X b o e))
  ⟨q, e.imp id .inl, l⟩

/-- the making of an thing -/
theorem FnG.make {fI : Addr} {fd : FuncData} {body : List Stmt} {xs : List Str} {ps : List VP} (X : K.In C.base) (hm : makesIn K Cl = true) (hi : findIn K (.ref Cl) "__init__" = some (some (.ref fI))) (hf : typeIn K (.ref fI) = some (.type "function"))
    (D : DefOk C fI fd body xs fr) (hl : ps.length + 1 = xs.length)
    (h : ∀ x, ExI C fr n Cl x (startVals (vIs (.ref x) :: ps) (fr.names.length - xs.length)) [] body attrs) : FnG C (n + 2) (.ref Cl) ps (vObj Cl attrs) := fun A S s vs I hA hx => by
  have X' := I.frag X
  refine wpAny_call ?_
  obtain ⟨hh, gg, d, t, os⟩ := s
  have nS : ∀ b, hh.objs.size ≤ b → ¬ S b := fun b hb q => by
    have := I.live b q
    cases e : hh.get? b with
    | none => rw [e] at this; cases this
    | some o => exact absurd (Heap.lt_size e) (Nat.not_lt.mpr hb)
  have nL : ∀ b, hh.objs.size ≤ b → ¬ liveIn hh b := fun b hb q => by
    obtain ⟨o, e⟩ := live_get q; exact absurd (Heap.lt_size e) (Nat.not_lt.mpr hb)
  refine make_core (makes_of X' hm) (looks_findIn X' hi) (fun self => bind_fn X' self hf) (.inl rfl) ?_
  have k : ∀ b o, hh.get? b = some o → ((hh.push emptyDict).push (instObj Cl hh.objs.size)).get? b = some o := fun b o e => Heap.get?_push_of_some _ (Heap.get?_push_of_some _ e)
  have g₀ : Grow C S ⟨hh, gg, d, t, os⟩ S ⟨(hh.push emptyDict).push (instObj Cl hh.objs.size), gg, d, t, os⟩ := grow_of_kept (tk := t) I k (fun _ h => h) fun _ h => .inl h
  have hxx : ((hh.push emptyDict).push (instObj Cl hh.objs.size)).get? (hh.objs.size + 1) = some (instObj Cl hh.objs.size) := by heap_get
  have hdd : ((hh.push emptyDict).push (instObj Cl hh.objs.size)).get? hh.objs.size = some emptyDict := Heap.get?_push_of_some _ (Heap.get?_push_size _ rfl)
  refine code_topAt (n := n) D (ps := vIs (.ref (hh.objs.size + 1)) :: ps) (by rw [List.length_cons]; exact hl) g₀.inv hA.make ⟨rfl, hx.keep fun b o _ e => k b o e⟩ fun env A' s₁ _ _ _ g F => ?_
  have hx₁ := g.all _ _ (g₀.inv.notab_of hxx fun vs q => by cases q) hxx
  have hd₁ := g.all _ _ (g₀.inv.notab_of hdd fun vs q => by cases q) hdd
  have Y : InitOk C fr n Cl (hh.objs.size + 1) hh.objs.size (liveIn hh) _ env A' S s₁ _ [] :=
    ⟨F, live_of hxx, live_of hdd, nS _ (Nat.le_succ _), nS _ (Nat.le_refl _), fun b q => g₀.alive q, nL _ (Nat.le_succ _), nL _ (Nat.le_refl _), hx₁, [], 0, hd₁, trivial⟩
  refine wpAny_mono (h _ _ _ _ _ _ _ _ Y) (fun f s' pq => ?_) fun _ _ z => z
  obtain ⟨e, S', vs', st, Y'⟩ := pq
  subst e
  refine ⟨rfl, ?_⟩
  obtain ⟨es, m, e1, e2⟩ := Y'.attr
  have F' := Y'.frame
  have ntx := F'.inv.notab_of Y'.inst fun vs q => by cases q
  have ntd := F'.inv.notab_of e1 fun vs q => by cases q
  let S2 : ASet := fun a => S' a ∨ a = hh.objs.size + 1 ∨ a = hh.objs.size
  have sub : ∀ a, S' a → S2 a := fun _ h => .inl h
  have st2 : Step C (liveIn hh) S' s' S2 s' :=
    ⟨⟨fun b o e => ⟨(F'.inv.base b o e).1, .inl (F'.inv.base b o e).2⟩, fun b h => by
        rcases h with h | h | h
        · exact F'.inv.live b h
        · subst h; exact live_of Y'.inst
        · subst h; exact live_of e1, fun t ht => (F'.inv.tab t ht).move (fun _ e => e) sub fun _ _ _ e => e, fun b h => by
        rcases h with h | h | h
        · exact F'.inv.notab b h
        · subst h; exact ntx
        · subst h; exact ntd, F'.inv.gens, F'.inv.os⟩, sub, fun b h => h.imp id fun q => by
        rcases q with q | q
        · subst q; exact Y'.ox
        · subst q; exact Y'.od, fun _ _ _ _ e => e⟩
  have gF : Grow C S ⟨hh, gg, d, t, os⟩ S2 s' := Step.trans (Step.trans (Grow.trans g₀ g) st) st2
  exact ⟨S2, gF, _, _, es, m, rfl, .inr (.inl rfl), .inr (.inr rfl), Y'.inst, e1, e2.mono sub⟩

end
end Mine

/-! LFobj -/
set_option maxRecDepth 100000
namespace Mine
open PySem PySem.W PyProof.Rows PySem.Builtin PySem.Builtin.ObjectAttr

theorem fnGaLookup : typeLookup (.type "function") "__getattribute__" = pure (some (.builtin "object.__getattribute__")) := by rw [typeLookup_type, builtinLookup_eq_fast]; kernel_rfl
theorem fnSpan : typeLookup (.type "function") "span" = pure none := by rw [typeLookup_type, builtinLookup_eq_fast]; kernel_rfl
theorem fnSearch : typeLookup (.type "function") "search" = pure none := by rw [typeLookup_type, builtinLookup_eq_fast]; kernel_rfl
theorem fnGetattr : typeLookup (.type "function") "__getattr__" = pure none := by rw [typeLookup_type, builtinLookup_eq_fast]; kernel_rfl
theorem fnGa : PySem.Slot "function" "__getattribute__" "object.__getattribute__" :=
  Slot.of (owner := "object") (n := "__getattribute__") fnGaLookup (by decide +kernel) (by decide +kernel) (by decide +kernel) (.inl (by decide +kernel)) (by rw [isSubtype_type]; kernel_rfl)
theorem ogaEntry : entryFor table "object.__getattribute__" = some Builtin.«object.__getattribute__» := entryFor_of_tree (by kernel_rfl)
theorem ogaArgs (a b : Value) : argsOk "object.__getattribute__" ⟨[a, b], []⟩ := by unfold argsOk; kernel_rfl
theorem fnSaLookup : typeLookup (.type "function") "__setattr__" = pure (some (.builtin "object.__setattr__")) := by rw [typeLookup_type, builtinLookup_eq_fast]; kernel_rfl
theorem fnSa : PySem.Slot "function" "__setattr__" "object.__setattr__" :=
  Slot.of (owner := "object") (n := "__setattr__") fnSaLookup (by decide +kernel) (by decide +kernel) (by decide +kernel) (.inl (by decide +kernel)) (by rw [isSubtype_type]; kernel_rfl)
theorem fnMro : mroOf (.type "function") = pure [.type "function", .type "object"] := by kernel_rfl
theorem fnPasses (self : Value) : refuseLoop self "__setattr__" [.type "function", .type "object"] = pure () := by kernel_rfl
theorem fnCanon : (Manifest.canonical "object.__getattribute__" != "object.__getattribute__") = false := by decide +kernel

theorem fnBool : typeLookup (.type "function") "__bool__" = pure none := by rw [typeLookup_type, builtinLookup_eq_fast]; kernel_rfl
theorem fnLen : typeLookup (.type "function") "__len__" = pure none := by rw [typeLookup_type, builtinLookup_eq_fast]; kernel_rfl
theorem fnHasDict : typeHasDict (.type "function") = true := by decide +kernel
theorem fnFinal : finalisedInACycleAlone "function" = false := by decide +kernel

theorem ogaSlot (x y : Value) : slotArgs "__getattribute__" 1 ⟨[x, y], []⟩ = pure (x, [y]) := by kernel_rfl

section
variable {prog : Program} {w : World} {A : Around} {E : Value → Shared → Prop} {s : Shared} {a d : Addr} {o : Obj} {fd : FuncData} {es : List DictEntry} {m : Nat} {name : Str} {v : Value}

theorem looks_fnType {M : Model} {h : Heap} (ho : h.get? a = some o) (hc : o.cls = .type "function") : Looks M h (typeOf (.ref a)) (.type "function") := hc ▸ (Looks.ld ho).andThen .now

theorem looks_fnFind {M : Model} {h : Heap} (ho : h.get? a = some o) (hc : o.cls = .type "function") (hf : o.data = .func fd) (hd : o.dict = some d) (hdd : h.get? d = some (dictOf es m)) (hn : typeLookup (.type "function") name = pure none) (hl : getL name es = some (some v)) :
    Looks M h (find (.ref a) (.type "function") name) (.value v) := by
  refine (Looks.of_pure hn).andThen (Looks.now.andThen (Looks.now.andThen ?_))
  show Looks M h (ownThenClass (.ref a) name none none) (.value v)
  refine Looks.andThen (a := some v) ?_ (Looks.tag .now)
  refine Looks.andThen (a := some d) ?_ ?_
  · refine Looks.andThen (a := o) (Looks.ld ho) ?_
    rw [hf]
    refine Looks.andThen (a := o) (Looks.ld ho) ?_
    rw [hc, hd]
    exact .now
  · exact (Looks.ld hdd).andThen (Looks.of_pure (nsLook_of ((lookIn_dict name es m).trans hl)))

theorem getAttr_fn {expr : Bool} {Q : Value → Shared → Prop} (ho : s.heap.get? a = some o) (hc : o.cls = .type "function") (hf : o.data = .func fd) (hd : o.dict = some d) (hdd : s.heap.get? d = some (dictOf es m)) (hn : typeLookup (.type "function") name = pure none)
    (hl : getL name es = some (some v)) (hh : handedIn v = true) (h : Q v { s with toks := s.toks + 1 }) : wpAny (model prog w) A (getAttr (.ref a) name expr) Q E s := by
  have L0 := looks_fnType (M := model prog w) ho hc
  have L1 := looks_fnFind (M := model prog w) ho hc hf hd hdd hn hl
  refine wpAny_bind (wpAny_mkText (wpAny_holding (wpAny_bind (L0 _ _ _ _ (fun _ _ e => e) (wpAny_bind (wpAny_of_eq fnGaLookup ?_))))))
  show wpAny _ _ (getAttrByItsOwn _ _ _ _ _ _) _ _ _
  refine wpAny_bind (wpAny_pure (wpAny_bind (wpAny_attempt (wpAny_holding ?_))))
  unfold callGetattribute
  rw [show (expr && onTheHeap (Value.builtin "object.__getattribute__")) = false from Bool.and_false _, if_neg (by decide)]
  unfold boundAndCalled
  rw [fnGa.bind]
  refine wpAny_bind (wpAny_pure ?_)
  show wpAny _ _ (call (.builtin "object.__getattribute__") [.ref a, .str name s.toks]) _ _ _
  refine wpAny_call (codeAny_call_builtin fnGa.plain ogaEntry (fnGa.check _ _ _ _ _ _ _ _ ⟨o, ho, hc⟩ (ogaArgs _ _) ?_))
  unfold Builtin.«object.__getattribute__»
  refine wpAny_bind (wpAny_of_eq (ogaSlot _ _) ?_)
  refine wpAny_bind (wpAny_pure (wpAny_bind (L0 _ _ _ _ (fun _ _ e => e) (wpAny_bind (L1 _ _ _ _ (fun _ _ e => e) (wpAny_pure ?_))))))
  show wpAny _ _ (handedOut v) _ _ _
  rw [handedOut_of hh]; exact wpAny_pure h

theorem getMethod_fn {pl : Sem Bool} {Q : Value × List Value → Shared → Prop} (ho : s.heap.get? a = some o) (hc : o.cls = .type "function") (hf : o.data = .func fd) (hd : o.dict = some d) (hdd : s.heap.get? d = some (dictOf es m)) (hn : typeLookup (.type "function") name = pure none)
    (hl : getL name es = some (some v)) (hh : handedIn v = true) (h : Q (v, []) { s with toks := s.toks + 1 }) : wpAny (model prog w) A (getMethod (.ref a) name pl) Q E s := by
  have L0 := looks_fnType (M := model prog w) ho hc
  unfold getMethod specialOf
  refine wpAny_bind (wpAny_bind (L0.here (wpAny_of_eq fnGaLookup ?_)))
  dsimp only
  rw [fnCanon, if_neg (by decide)]
  refine wpAny_bind (wpAny_bind (L0.here (wpAny_of_eq fnGetattr ?_)))
  refine wpAny_bind (wpAny_bind (L0.here (wpAny_of_eq hn ?_)))
  exact wpAny_bind (getAttr_fn ho hc hf hd hdd hn hl hh (wpAny_pure h))

theorem truthy_fn {Q : Bool → Shared → Prop} (ho : s.heap.get? a = some o) (hc : o.cls = .type "function") (h : Q true s) : wpAny (model prog w) A (truthy (.ref a)) Q E s := by
  have L0 := looks_fnType (M := model prog w) ho hc
  unfold truthy
  refine wpAny_bind ?_
  unfold callSpecial? specialOf
  refine wpAny_bind (wpAny_bind (L0.here (wpAny_of_eq fnBool ?_)))
  refine wpAny_pure (wpAny_bind (wpAny_bind (L0.here (wpAny_of_eq fnLen ?_))))
  exact wpAny_pure h

theorem setAttr_fn {Q : Unit → Shared → Prop} (ho : s.heap.get? a = some o) (hc : o.cls = .type "function") (hf : o.data = .func fd) (hd : o.dict = none) (hn : typeLookup (.type "function") name = pure none)
    (h : ∀ h' tk es m, (∀ b x, b ≠ a → s.heap.get? b = some x → h'.get? b = some x) → h'.get? a = some { o with dict := some s.heap.objs.size } → h'.get? s.heap.objs.size = some (dictOf es m) →
      (∃ hsh t, es = [⟨hsh, .str name t, v⟩]) → Q () { s with heap := h', toks := tk }) :
    wpAny (model prog w) A (setAttr (.ref a) name v) Q E s := by
  have L0 := looks_fnType (M := model prog w) ho hc
  have SF := PySem.F.store_object
  refine wpAny_bind (wpAny_mkText (wpAny_bind (wpAny_bind (wpAny_bind (L0 _ _ _ _ (fun _ _ e => e) (wpAny_of_eq fnSaLookup (wpAny_holding ?_)))))))
  rw [fnSa.bind]
  refine wpAny_bind (wpAny_pure (wpAny_bind (wpAny_call (codeAny_call_builtin SF.slot.plain SF.entry (fnSa.check _ _ _ _ _ _ _ _ ⟨o, ho, hc⟩ (SF.args _ _ _) ?_)))))
  show wpAny _ _ (Builtin.«object.__setattr__» ⟨[.ref a, .str name s.toks, v], []⟩) _ _ _
  rw [osa_eq, refuse_eq]
  refine wpAny_bind (wpAny_bind (L0 _ _ _ _ (fun _ _ e => e) (wpAny_bind (wpAny_of_eq fnMro ?_))))
  rw [fnPasses]
  refine wpAny_pure (wpAny_bind (L0 _ _ _ _ (fun _ _ e => e) (wpAny_bind (wpAny_of_eq hn (wpAny_bind (wpAny_pure ?_))))))
  show wpAny _ _ (storeInOwnDict (.ref a) (.type "function") (.str name s.toks) name v false) _ _ _
  refine wpAny_bind (wpAny_pure (wpAny_bind (wpAny_bind (wpAny_loadPart ho ?_))))
  rw [hc, hd]
  dsimp only
  rw [fnHasDict, hf]
  refine wpAny_bind (wpAny_alloc ?_)
  have ho1 : (s.heap.push emptyDict).get? a = some o := Heap.get?_push_of_some _ ho
  have hd1 : (s.heap.push emptyDict).get? s.heap.objs.size = some emptyDict := Heap.get?_push_size _ rfl
  have hne : s.heap.objs.size ≠ a := Ne.symm (Nat.ne_of_lt (Heap.lt_size ho))
  refine wpAny_bind (wpAny_update ho1 ?_)
  have ho2 := Heap.get?_update_self (fun o : Obj => { o with dict := some s.heap.objs.size }) ho1 (by obtain ⟨_, _, dd, _⟩ := o; cases hf; rfl)
  have hd2 : ((s.heap.push emptyDict).update a fun o : Obj => { o with dict := some s.heap.objs.size }).get? s.heap.objs.size = some (dictOf [] 0) := (Heap.get?_update_ne _ _ _ _ hne).trans hd1
  unfold dictMade
  dsimp only
  rw [fnFinal]
  refine wpAny_pure (a := some s.heap.objs.size) (wpAny_bind (wpAny_pure (wpAny_bind ?_)))
  unfold nsSet
  refine wpAny_bind (wpAny_bind (wpAny_askSetting (wpAny_pure (wpAny_bind (wpAny_mkText (wpAny_bind (wpAny_loadPart hd2 ?_)))))))
  dsimp only
  have c : (!([] : List DictEntry).toArray.any (·.key.isStr name) && ([] : List DictEntry).toArray.any (·.refKey)) = false := by simp
  rw [aRefKeyMayBeTheName_at, c]
  refine wpAny_updatePart hd2 ?_
  have U := putName_dict name (PyData.keyHash w.params name) (.str name (s.toks + 1)) v [] 0
  have D' := Heap.get?_update_self (Obj.putName name (PyData.keyHash w.params name) (.str name (s.toks + 1)) v) hd2 (by rw [U]; rfl)
  rw [U] at D'
  refine wpAny_bind (wpAny_lookBehind D' (pastItsLine_dict (by rw [List.size_toArray, sizeLine_eq]; simp [putL])) ?_)
  refine wpAny_pure (wpAny_pure (wpAny_pure (h _ _ _ _ (fun b x hb e => ?_) ?_ D' ⟨_, _, rfl⟩)))
  · have hb2 : b ≠ s.heap.objs.size := Nat.ne_of_lt (Heap.lt_size e)
    exact (Heap.get?_update_ne _ _ _ _ hb2).trans ((Heap.get?_update_ne _ _ _ _ hb).trans (Heap.get?_push_of_some _ e))
  · exact (Heap.get?_update_ne _ _ _ _ (Ne.symm hne)).trans ho2
end
end Mine

/-! LClo -/
set_option maxRecDepth 10000
namespace Mine
open PySem PySem.W PyProof.Rows

theorem codeAmong_app {x pos : Pos} {c : Value} (l : List Value) (h : TriplesOk l) :
    codeAmong x (l ++ [rawInt pos.line, rawInt pos.col, c]) = match codeAmong x l with | some v => some v | none => if pos.line = x.line ∧ pos.col = x.col then some c else none := by
  fun_induction TriplesOk l with
  | case1 =>
    show codeAmong x [rawInt pos.line, rawInt pos.col, c] = _
    simp only [codeAmong, rawInt]
    by_cases q : pos.line = x.line ∧ pos.col = x.col
    · rw [if_pos q, if_pos (by simp [q.1, q.2])]
    · rw [if_neg q, if_neg (by
        simp only [Bool.and_eq_true, beq_iff_eq]
        rintro ⟨h1, h2⟩
        exact q ⟨Int.ofNat.inj h1, Int.ofNat.inj h2⟩)]
  | case2 a b c' d e r ih =>
    simp only [List.cons_append, codeAmong]
    split
    · rfl
    · exact ih h
  | case3 => exact h.elim
theorem triples_app {l : List Value} {a b : Nat} {c : Value} (h : TriplesOk l) : TriplesOk (l ++ [rawInt a, rawInt b, c]) := by
  fun_induction TriplesOk l with
  | case1 => exact trivial
  | case2 a b c' d e r ih => exact ih h
  | case3 => exact h.elim

/-- what the making of a function leans upon -/
structure MakerOk (C : Cx) (mg : Str → Option Value) (t : TabSpec) : Prop where
  mem : t ∈ C.tabs
  uniq : ∀ t' ∈ C.tabs, t'.P = t.P → t' = t
  hd : CodeHd C.base t.c t.P
  g : C.base.Ns mainGlobals mg
  b : ∃ bm ob, mg "__builtins__" = some (.ref bm) ∧ bm ≠ builtinsNs ∧ C.base.get? bm = some ob ∧ ob.cls = .type "module" ∧ ob.dict = some builtinsNs ∧ ob.data = .plain

section
variable {C : Cx} {fr : Shape} {n : Nat} {vals vals' : List Slot} {mg : Str → Option Value} {t : TabSpec}

theorem make_fn {A : Around} {E : Value → Shared → Prop} {S : ASet} {s : Shared} {env : Env} {name qual : Str} {params : Arguments} {body : FuncBody} {scope : Scope} {clos : List (Str × Addr)} {dV : Value} {pos : Pos} {firstLine : Nat} {Q : Value → Shared → Prop}
    (T : MakerOk C mg t) (I : Inv C S s) (hcode : env.code = .ref t.c) (hglob : env.globals = mainGlobals) (hm : (pos, qual) ∈ t.made) (hu : ∀ x ∈ t.made, pos.line = x.1.line → pos.col = x.1.col → x.2 = qual) (hcl : closureFor scope env = pure clos)
    (h : ∀ f c' ctv doc S' s', Grow C S s S' s' → s.heap.get? f = none → ¬ S' f → s'.heap.get? f = some (kdv_obj name qual params body scope clos dV doc ((mg "__name__").getD .none) c' ctv) → S' c' → s'.heap.CodeRec (.ref c') qual → Q (.ref f) s') :
    wpAny C.M A (makeTail name qual params body scope env dV .none none pos firstLine) Q E s := by
  obtain ⟨ps, hP, htr, hmade⟩ := I.tab t T.mem
  have kb : ∀ b o, C.base.get? b = some o → s.heap.get? b = some o := fun b o e => (I.base b o e).1
  have nb : ∀ b o, C.base.get? b = some o → b ≠ t.P := fun b o e q => I.notab b (I.base b o e).2 ⟨t, T.mem, q.symm⟩
  have hg := T.g.keeps kb
  have hgP : mainGlobals ≠ t.P := by obtain ⟨o, es, ep, e, _⟩ := T.g; exact nb _ _ e
  have hb : s.heap.BuiltinsAt mg t.P := by
    obtain ⟨bm, ob, b1, b2, b3, b4⟩ := T.b
    refine ⟨bm, ob, b1, b2, fun q => ?_, nb _ _ b3, kb _ _ b3, b4⟩
    obtain ⟨o, es, ep, e, hd, _⟩ := T.g
    rw [q, e] at b3; cases b3; rw [hd] at b4; exact nomatch b4.2.2
  cases hf : codeAmong pos ps.toList with
  | some cv =>
    rcases hmade (pos, qual) hm with q | ⟨c', q, hS, hrec⟩
    · rw [hf] at q; cases q
    · have q' : cv = .ref c' := by rw [hf] at q; exact Option.some.inj q
      subst q'
      refine kdv_makeTailHit (mg := mg) hcl hglob hg hcode (T.hd.keeps kb) hP htr hf hb fun ctv doc h' tk hk hsz => ?_
      have hk' : ∀ b o, s.heap.get? b = some o → (h'.push (kdv_obj name qual params body scope clos dV doc ((mg "__name__").getD .none) c' ctv)).get? b = some o := fun b o e => Heap.get?_push_of_some _ (hk b o e)
      have g : Grow C S s S { s with heap := h'.push (kdv_obj name qual params body scope clos dV doc ((mg "__name__").getD .none) c' ctv), toks := tk } := grow_of_kept (tk := tk) I hk' (fun _ h => h) fun _ h => .inl h
      refine h h'.objs.size c' ctv doc S _ g ?_ ?_ (Heap.get?_push_size _ rfl) hS (hrec.keeps hk')
      · exact Heap.get?_none_of_le hsz
      · intro q; have := I.live _ q; rw [Heap.get?_none_of_le hsz] at this; cases this
  | none =>
    refine kdv_makeTail (mg := mg) hcl hglob hg hcode (T.hd.keeps kb) hP htr hf hgP hb fun c' ctv doc h' tk hx hge hlt hrec htb => ?_
    have hk' : ∀ b o, b ≠ t.P → s.heap.get? b = some o → (h'.push (kdv_obj name qual params body scope clos dV doc ((mg "__name__").getD .none) c' ctv)).get? b = some o := fun b o hb e => Heap.get?_push_of_some _ (hx b o hb e)
    have hrec' := hrec.push (kdv_obj name qual params body scope clos dV doc ((mg "__name__").getD .none) c' ctv)
    have hsz : s.heap.objs.size ≤ h'.objs.size := Nat.le_trans hge (Nat.le_of_lt hlt)
    have nc : ¬ liveIn s.heap c' := not_live (Heap.get?_none_of_le hge)
    have lc : liveIn (h'.push (kdv_obj name qual params body scope clos dV doc ((mg "__name__").getD .none) c' ctv)) c' := by
      obtain ⟨c2, o, vs, tt, e, g, _⟩ := hrec'; cases e; exact live_of g
    have nSf : ¬ (S h'.objs.size ∨ h'.objs.size = c') := by
      rintro (q | q)
      · have := I.live _ q; rw [Heap.get?_none_of_le hsz] at this; cases this
      · exact Nat.ne_of_gt hlt q
    have g : Grow C S s (fun a => S a ∨ a = c') { s with heap := h'.push (kdv_obj name qual params body scope clos dV doc ((mg "__name__").getD .none) c' ctv), toks := tk } := by
      refine ⟨⟨fun b o e => ⟨hk' _ _ (nb b o e) (kb b o e), .inl (I.base b o e).2⟩, fun b hb => ?_, fun t' ht' => ?_, fun b hb => ?_, I.gens, I.os⟩, fun _ h => .inl h, fun b hb => ?_, fun b o hb _ e => hk' _ _ (fun q => hb ⟨t, T.mem, q.symm⟩) e⟩
      · rcases hb with hb | rfl
        · obtain ⟨o, e⟩ := Option.isSome_iff_exists.mp (I.live b hb)
          exact live_of (hk' b o (fun q => I.notab b hb ⟨t, T.mem, q.symm⟩) e)
        · exact lc
      · by_cases q : t'.P = t.P
        · have := T.uniq t' ht' q
          subst this
          refine ⟨_, Heap.get?_push_of_some _ htb, ?_, fun x hx' => ?_⟩
          · rw [Array.toList_append]; exact triples_app htr
          · rw [Array.toList_append]
            show codeAmong x.1 (ps.toList ++ [rawInt pos.line, rawInt pos.col, .ref c']) = none ∨ _
            rw [codeAmong_app _ htr]
            rcases hmade x hx' with q2 | ⟨c2, q2, q3, q4⟩
            · rw [q2]
              dsimp only
              by_cases q3 : pos.line = x.1.line ∧ pos.col = x.1.col
              · refine .inr ⟨c', ?_, .inr rfl, ?_⟩
                · exact if_pos q3
                · rw [hu x hx' q3.1 q3.2]; exact hrec'
              · exact .inl (if_neg q3)
            · refine .inr ⟨c2, ?_, .inl q3, ?_⟩
              · rw [q2]
              · obtain ⟨c3, o, vs, tt, e, g, r⟩ := q4
                cases e
                exact ⟨c2, o, vs, tt, rfl, hk' _ _ (fun q => I.notab c2 q3 ⟨t', ht', q.symm⟩) g, r⟩
        · exact (I.tab t' ht').move (fun o e => hk' _ _ q e) (fun _ h => .inl h) fun b o hb e => hk' _ _ (fun q => I.notab b hb ⟨t, T.mem, q.symm⟩) e
      · rcases hb with hb | rfl
        · exact I.notab b hb
        · rintro ⟨t', ht', q⟩
          obtain ⟨ps', e, _⟩ := I.tab t' ht'
          exact nc (q ▸ live_of e)
      · rcases hb with hb | rfl
        · exact .inl hb
        · exact .inr nc
    exact h h'.objs.size c' ctv doc _ _ g (Heap.get?_none_of_le hsz) nSf (Heap.get?_push_size _ rfl) (.inr rfl) hrec'

end
end Mine

/-! LClo2 -/
set_option maxRecDepth 10000
namespace Mine
open PySem PySem.W PyProof.Rows

noncomputable def CellsOk (S : ASet) (h : Heap) : List (Str × Addr) → List (Str × VP) → Prop
  | [], [] => True
  | a :: r, b :: q => (a.1 = b.1 ∧ S a.2 ∧ ∃ v, h.IsCell a.2 (some v) ∧ b.2.P S h v) ∧ CellsOk S h r q
  | _, _ => False
theorem CellsOk.mono {S S' : ASet} {h : Heap} (hs : ∀ a, S a → S' a) : ∀ {as : List (Str × Addr)} {bs : List (Str × VP)}, CellsOk S h as bs → CellsOk S' h as bs
  | [], [], _ => trivial
  | _ :: _, b :: _, ⟨⟨e, x, v, y, z⟩, r⟩ => ⟨⟨e, hs _ x, v, y, b.2.mono hs z⟩, r.mono hs⟩
  | [], _ :: _, x => x.elim
  | _ :: _, [], x => x.elim
theorem CellsOk.keep {S : ASet} {h h' : Heap} (hk : ∀ a o, S a → h.get? a = some o → h'.get? a = some o) : ∀ {as : List (Str × Addr)} {bs : List (Str × VP)}, CellsOk S h as bs → CellsOk S h' as bs
  | [], [], _ => trivial
  | _ :: _, b :: _, ⟨⟨e, x, v, ⟨o, y, y'⟩, z⟩, r⟩ => ⟨⟨e, x, v, ⟨o, hk _ _ x y, y'⟩, b.2.keep hk z⟩, r.keep hk⟩
  | [], _ :: _, x => x.elim
  | _ :: _, [], x => x.elim
theorem CellsOk.all {S : ASet} {h : Heap} : ∀ {as : List (Str × Addr)} {bs : List (Str × VP)}, CellsOk S h as bs → ∀ x c, as.lookup x = some c → ∃ v, h.IsCell c v
  | [], [], _, _, _, e => by cases e
  | a :: as, _ :: _, ⟨⟨_, _, v, y, _⟩, r⟩, x, c, e => by
    rw [List.lookup_cons] at e
    cases q : (x == a.1) with
    | true => rw [q] at e; cases e; exact ⟨_, y⟩
    | false => rw [q] at e; exact r.all x c e
  | [], _ :: _, x, _, _, _ => x.elim
  | _ :: _, [], x, _, _, _ => x.elim
theorem CellsOk.get {S : ASet} {h : Heap} : ∀ {as : List (Str × Addr)} {bs : List (Str × VP)}, CellsOk S h as bs → (bs.map (·.1)).Nodup → ∀ (i : Nat) (b : Str × VP), bs[i]? = some b → ∃ c v, as.lookup b.1 = some c ∧ h.IsCell c (some v) ∧ b.2.P S h v
  | [], [], _, _, _, _, e => by simp at e
  | a :: as, b :: bs, ⟨⟨e1, _, v, y, z⟩, r⟩, hn, i, b', e => by
    obtain ⟨h1, h2⟩ := List.nodup_cons.mp hn
    cases i with
    | zero =>
      simp at e; subst e
      exact ⟨a.2, v, by rw [List.lookup_cons, e1]; simp, y, z⟩
    | succ i =>
      simp at e
      obtain ⟨c, v', q1, q2⟩ := r.get h2 i b' e
      refine ⟨c, v', ?_, q2⟩
      rw [List.lookup_cons, e1]
      have : (b'.1 == b.1) = false := by
        cases q : (b'.1 == b.1) with
        | false => rfl
        | true => exact absurd (List.mem_map.mpr ⟨b', List.mem_of_getElem? e, eq_of_beq q⟩) h1
      rw [this]; exact q1
  | [], _ :: _, x, _, _, _, _ => x.elim
  | _ :: _, [], x, _, _, _, _ => x.elim

noncomputable def DfltOk (S : ASet) (h : Heap) (dV : Value) : Option (List VP) → Prop
  | none => dV = .none
  | some ps => ∃ t vs, dV = .ref t ∧ S t ∧ h.get? t = some (kdv_tup vs) ∧ All2 S h vs ps

/-- a function made within a call -/
structure CloAt (name qual : Str) (params : Arguments) (body : FuncBody) (scope : Scope) (dflt : Option (List VP)) (cells : List (Str × VP)) (S : ASet) (h : Heap) (f : Addr) (clos : List (Str × Addr)) (dV : Value) (doc pm : Value) (c' : Addr) (ctv : Value) : Prop where
  sf : S f
  gf : h.get? f = some (kdv_obj name qual params body scope clos dV doc pm c' ctv)
  sc : S c'
  rec_ : h.CodeRec (.ref c') qual
  dfl : DfltOk S h dV dflt
  cel : CellsOk S h clos cells
theorem DfltOk.mono {S S' : ASet} {h : Heap} {dV : Value} {dflt : Option (List VP)} (hs : ∀ a, S a → S' a) (x : DfltOk S h dV dflt) : DfltOk S' h dV dflt := by
  cases dflt with
  | none => exact x
  | some ps => obtain ⟨t, vs, q1, q2, q3, q4⟩ := x; exact ⟨t, vs, q1, hs _ q2, q3, q4.mono hs⟩
theorem DfltOk.keep {S : ASet} {h h' : Heap} {dV : Value} {dflt : Option (List VP)} (hk : ∀ a o, S a → h.get? a = some o → h'.get? a = some o) (x : DfltOk S h dV dflt) : DfltOk S h' dV dflt := by
  cases dflt with
  | none => exact x
  | some ps => obtain ⟨t, vs, q1, q2, q3, q4⟩ := x; exact ⟨t, vs, q1, q2, hk _ _ q2 q3, q4.keep hk⟩
theorem codeRec_keep {S : ASet} {h h' : Heap} {c : Addr} {qual : Str} (hk : ∀ a o, S a → h.get? a = some o → h'.get? a = some o) (hc : S c) (x : h.CodeRec (.ref c) qual) : h'.CodeRec (.ref c) qual := by
  obtain ⟨c, o, vs, t, e1, e2, r⟩ := x; cases e1; exact ⟨_, o, vs, t, rfl, hk _ _ hc e2, r⟩
noncomputable def vClo (name qual : Str) (params : Arguments) (body : FuncBody) (scope : Scope) (dflt : Option (List VP)) (cells : List (Str × VP)) : VP where
  P := fun S h v => ∃ f clos dV doc pm c' ctv, v = .ref f ∧ CloAt name qual params body scope dflt cells S h f clos dV doc pm c' ctv
  mono := fun hs x => by
    obtain ⟨f, clos, dV, doc, pm, c', ctv, e, H⟩ := x
    exact ⟨f, clos, dV, doc, pm, c', ctv, e, ⟨hs _ H.sf, H.gf, hs _ H.sc, H.rec_, H.dfl.mono hs, H.cel.mono hs⟩⟩
  keep := fun hk x => by
    obtain ⟨f, clos, dV, doc, pm, c', ctv, e, H⟩ := x
    exact ⟨f, clos, dV, doc, pm, c', ctv, e, ⟨H.sf, hk _ _ H.sf H.gf, H.sc, codeRec_keep hk H.sc H.rec_, H.dfl.keep hk, H.cel.keep hk⟩⟩

/-- a function with attributes -/
structure FunAt (attrs : List (Str × VP)) (S : ASet) (h : Heap) (f : Addr) (o : Obj) (fd : FuncData) (d : Addr) (es : List DictEntry) (m : Nat) : Prop where
  sf : S f
  sd : S d
  gf : h.get? f = some o
  cls : o.cls = .type "function"
  data : o.data = .func fd
  dict : o.dict = some d
  gd : h.get? d = some (dictOf es m)
  ats : AttrsOk S h es attrs
noncomputable def vFun (attrs : List (Str × VP)) : VP where
  P := fun S h v => ∃ f o fd d es m, v = .ref f ∧ FunAt attrs S h f o fd d es m
  mono := fun hs x => by
    obtain ⟨f, o, fd, d, es, m, e, H⟩ := x
    exact ⟨f, o, fd, d, es, m, e, ⟨hs _ H.sf, hs _ H.sd, H.gf, H.cls, H.data, H.dict, H.gd, H.ats.mono hs⟩⟩
  keep := fun hk x => by
    obtain ⟨f, o, fd, d, es, m, e, H⟩ := x
    exact ⟨f, o, fd, d, es, m, e, ⟨H.sf, H.sd, hk _ _ H.sf H.gf, H.cls, H.data, H.dict, hk _ _ H.sd H.gd, H.ats.keep hk⟩⟩

/-- the slots of such a function's frame -/
noncomputable def cloVals (ps : List VP) (k : Nat) (cells : List (Str × VP)) : List Slot := ps.map .val ++ (List.replicate k .un ++ cells.map fun c => .val c.2)

structure CloShape (scope : Scope) (xs locs : List Str) (cn : List Str) : Prop where
  kind : scope.kind = .function
  co : scope.isCoroutine = false
  gen : scope.isGenerator = false
  nocell : ∀ x ∈ scope.names, x.2 ≠ .cell
  par : ∀ x ∈ xs, scope.names.lookup x = some .local
  fre : ∀ x ∈ cn, scope.names.lookup x = some .free
  nodup : (xs ++ (locs ++ cn)).Nodup

theorem lookup_rev_zip : ∀ (xs : List Str) (vs : List Value) (hn : xs.Nodup) (i : Nat) (x : Str) (v : Value), xs[i]? = some x → vs[i]? = some v → (xs.zip vs).reverse.lookup x = some v
  | [], _, _, i, _, _, e, _ => by simp at e
  | _ :: _, [], _, i, _, _, _, e => by simp at e
  | y :: r, u :: vs, hn, i, x, v, e1, e2 => by
    obtain ⟨h1, h2⟩ := List.nodup_cons.mp hn
    rw [List.zip_cons_cons, List.reverse_cons, List.lookup_append]
    cases i with
    | zero =>
      simp at e1 e2; subst e1 e2
      have : (r.zip vs).reverse.lookup y = none := by
        rw [List.lookup_eq_none_iff]
        intro p hp
        have := (List.of_mem_zip (a := p.1) (b := p.2) (List.mem_reverse.mp hp)).1
        have q : p.1 ≠ y := fun q => h1 (q ▸ this)
        simpa using fun e => q (by rw [e])
      rw [this]; simp
    | succ i =>
      simp at e1 e2
      rw [lookup_rev_zip r vs h2 i x v e1 e2]; rfl

section
variable {C : Cx} {n : Nat}

theorem clo_frame {scope : Scope} {xs locs : List Str} {cells : List (Str × VP)} {ps : List VP} {A : Around} {S : ASet} {s : Shared} {clos : List (Str × Addr)} {vs : List Value} {h' : Heap} {fd : FuncData} {f : Addr} {tk : Nat}
    (Z : CloShape scope xs locs (cells.map (·.1))) (I : Inv C S s) (hA : AOk (n + 1) A) (hsc : fd.scope = scope) (hcl : fd.closure = clos) (hgl : fd.globals = mainGlobals) (hbu : fd.builtins = builtinsNs) (hc : CellsOk S s.heap clos cells) (hx : All2 S s.heap vs ps) (hl : ps.length = xs.length)
    (hns : h'.Ns s.heap.objs.size (fun x => (xs.zip vs).reverse.lookup x)) (hk : ∀ b o, s.heap.get? b = some o → h'.get? b = some o) :
    FrameOk C ⟨scope, xs ++ (locs ++ cells.map (·.1)), []⟩ n (liveIn s.heap) (callEnv fd s.heap.objs.size f) (A.deeper (callEnv fd s.heap.objs.size f)) S { s with heap := h', toks := tk } (cloVals ps locs.length cells) := by
  have g : Grow C S s S { s with heap := h', toks := tk } := grow_of_kept I hk (fun _ h => h) fun _ h => .inl h
  have fresh : s.heap.get? s.heap.objs.size = none := Heap.get?_none_of_le (Nat.le_refl _)
  have hc' : CellsOk S h' clos cells := hc.keep fun b o _ e => hk b o e
  obtain ⟨n1, n2, n3⟩ := List.nodup_append.mp Z.nodup
  obtain ⟨n4, n5, n6⟩ := List.nodup_append.mp n2
  refine ⟨g.inv, hsc, by show fd.scope.kind = _; rw [hsc]; exact Z.kind, hgl, hbu, hA.deeper _, fun _ h => g.alive h, ⟨_, hns⟩, ⟨fun q => ?_, not_live fresh⟩, fun x c q => ?_, fun x q => (nomatch q), fun x q => (nomatch q), fun _ => 0, ?_, fun i x t hy ht => ?_, fun i j l l' hi _ _ => ?_⟩
  · have := I.live _ q
    have q2 : (s.heap.get? s.heap.objs.size).isSome = true := this
    rw [fresh] at q2; cases q2
  · have q2 : clos.lookup x = some c := by rw [← hcl]; exact q
    exact hc'.all x c q2
  · simp only [cloVals, List.length_append, List.length_map, List.length_replicate, hl]
  · unfold cloVals at ht
    rw [List.getElem?_append] at ht
    split at ht
    · rename_i hi
      rw [List.getElem?_map] at ht
      rw [List.length_map] at hi
      cases e : ps[i]? with
      | none => rw [e] at ht; cases ht
      | some p =>
        rw [e] at ht; cases ht
        obtain ⟨v, hv, hpv⟩ := hx.get e
        have hy' : xs[i]? = some x := by rw [List.getElem?_append_left (by rw [← hl]; exact hi)] at hy; exact hy
        refine ⟨v, .inl ⟨?_, _, hns, lookup_rev_zip xs vs n1 i x v hy' hv⟩, p.keep (fun b o _ e => hk b o e) hpv⟩
        show fd.scope.names.lookup x = some .local
        rw [hsc]; exact Z.par x (List.mem_of_getElem? hy')
    · rename_i hi
      rw [List.length_map] at ht hi
      rw [List.getElem?_append] at ht
      split at ht
      · have := List.eq_of_mem_replicate (List.mem_of_getElem? ht); subst this; trivial
      · rename_i hi2
        rw [List.length_replicate] at ht hi2
        rw [List.getElem?_map] at ht
        cases e : cells[i - ps.length - locs.length]? with
        | none => rw [e] at ht; cases ht
        | some b =>
          rw [e] at ht; cases ht
          have hy' : x = b.1 := by
            rw [List.getElem?_append_right (by rw [← hl]; lia), List.getElem?_append_right (by rw [← hl]; lia), List.getElem?_map, ← hl, e] at hy
            exact (Option.some.inj hy).symm
          subst hy'
          obtain ⟨c, v, q1, q2, q3⟩ := hc'.get n5 _ b e
          refine ⟨v, .inr ⟨.inr ?_, c, ?_, q2⟩, q3⟩
          · show fd.scope.names.lookup b.1 = some .free
            rw [hsc]; exact Z.fre b.1 (List.mem_map_of_mem (List.mem_of_getElem? e))
          · show fd.closure.lookup b.1 = some c
            rw [hcl]; exact q1
  · unfold cloVals at hi
    have := List.mem_of_getElem? hi
    rcases List.mem_append.mp this with q | q
    · obtain ⟨p, _, e⟩ := List.mem_map.mp q; cases e
    · rcases List.mem_append.mp q with q | q
      · have := List.eq_of_mem_replicate q; cases this
      · obtain ⟨p, _, e⟩ := List.mem_map.mp q; cases e

/-- a call of a value of a kind -/
noncomputable def CallG (C : Cx) (n : Nat) (q : VP) (ps : List VP) (r : VP) : Prop :=
  ∀ A S s f vs, Inv C S s → AOk n A → q.P S s.heap f → All2 S s.heap vs ps → Gives C A (call f vs) S s r

theorem CallG.expr {name qual : Str} {params : Arguments} {body : Expr} {scope : Scope} {cells : List (Str × VP)} {r : VP} (hlim : C.base.NoLimit) (Z : CloShape scope [] [] (cells.map (·.1)))
    (hb : ∀ fd : FuncData, fd.params = params → fd.defaults = .none → fd.kwdefaults = .none → bindArgs fd ⟨[], []⟩ = pure []) (h : Ev C ⟨scope, cells.map (·.1), []⟩ n (cells.map fun c => .val c.2) body r) : CallG C (n + 1) (vClo name qual params (.expr body) scope none cells) [] r :=
  fun A S s f vs I hA hf hx => by
    cases vs with
    | cons _ _ => exact hx.elim
    | nil =>
    obtain ⟨f, clos, dV, doc, pm, c', ctv, rfl, h1, h2, h3, h4, h5, h6⟩ := hf
    have kb : ∀ b o, C.base.get? b = some o → s.heap.get? b = some o := fun b o e => (I.base b o e).1
    refine wpAny_call (kla_callFunE (by have := hA.depth; lia) h2 rfl Z.co Z.gen rfl h4 ?_)
    rw [hb (kdv_fn name qual params (.expr body) scope clos dV doc pm (.ref c') ctv) rfl h5 rfl]
    refine wpAny_pure (wpAny_newFunctionEnv Z.nocell (fun x q => nomatch q) (fun h' hns hsb => ?_) Z.kind)
    have hk : ∀ b o, s.heap.get? b = some o → h'.get? b = some o := fun b o e => hsb.extBut b o (Nat.ne_of_lt (Heap.lt_size e)) (Heap.get?_push_of_some _ e)
    refine ⟨(hlim.keeps kb).keeps hk, kla_codeExpr ?_⟩
    have F := clo_frame (tk := s.toks + 0) (f := f) (fd := kdv_fn name qual params (.expr body) scope clos dV doc pm (.ref c') ctv) (xs := []) (locs := []) Z I hA rfl rfl rfl rfl h6 (vs := []) (ps := []) trivial rfl hns hk
    have g : Grow C S s S { s with heap := h', toks := s.toks + 0 } := grow_of_kept I hk (fun _ h => h) fun _ h => .inl h
    exact wpAny_mono (h _ _ _ _ _ F) (fun v s' ⟨S', g', x⟩ => ⟨S', g.trans g', x⟩) fun _ _ z => z.elim

theorem CallG.stmts {name qual : Str} {params : Arguments} {body : List Stmt} {scope : Scope} {dflt : Option (List VP)} {cells : List (Str × VP)} {xs locs : List Str} {ps ps' : List VP} {o : Out} {r : VP} (hlim : C.base.NoLimit) (Z : CloShape scope xs locs (cells.map (·.1))) (hl : ps'.length = xs.length)
    (hb : ∀ S s vs fd, fd.params = params → fd.kwdefaults = .none → DfltOk S s.heap fd.defaults dflt → All2 S s.heap vs ps → ∃ vs', All2 S s.heap vs' ps' ∧ BindsTo s fd ⟨vs, []⟩ (xs.zip vs'))
    (h : Ex C ⟨scope, xs ++ (locs ++ cells.map (·.1)), []⟩ n (cloVals ps' locs.length cells) body o) (he : Ends o r) : CallG C (n + 1) (vClo name qual params (.stmts body) scope dflt cells) ps r :=
  fun A S s f vs I hA hf hx => by
    obtain ⟨f, clos, dV, doc, pm, c', ctv, rfl, h1, h2, h3, h4, h5, h6⟩ := hf
    have kb : ∀ b o, C.base.get? b = some o → s.heap.get? b = some o := fun b o e => (I.base b o e).1
    obtain ⟨vs', hx', hbind⟩ := hb S s vs (kdv_fn name qual params (.stmts body) scope clos dV doc pm (.ref c') ctv) rfl rfl h5 hx
    have hlen : vs'.length = xs.length := hx'.length.trans hl
    refine wpAny_call (codeAny_call_def (fd := kdv_fn name qual params (.stmts body) scope clos dV doc pm (.ref c') ctv) (body := body) (binds := xs.zip vs') (by have := hA.depth; lia) h2 rfl (hlim.keeps kb) h4 rfl hbind Z.nocell
      (fun x q => Z.par x.1 (List.of_mem_zip (a := x.1) (b := x.2) q).1) (fun h' hns hk => ?_) Z.co Z.gen Z.kind)
    have F := clo_frame (tk := s.toks + (xs.zip vs').length) (f := f) (fd := kdv_fn name qual params (.stmts body) scope clos dV doc pm (.ref c') ctv) Z I hA rfl rfl rfl rfl h6 hx' hl hns hk
    have g : Grow C S s S { s with heap := h', toks := s.toks + (xs.zip vs').length } := grow_of_kept I hk (fun _ h => h) fun _ h => .inl h
    refine wpAny_mono (h _ _ _ _ _ F) (fun fl s' pq => ?_) fun _ _ z => z.elim
    obtain ⟨S', st, y⟩ := pq
    have g' : Grow C S s S' s' := Step.trans g st
    cases he with
    | ret p => cases fl <;> first | exact y.elim | exact ⟨S', g', y⟩
    | next v => cases fl <;> first | exact y.elim | exact ⟨S', g', rfl⟩

end
end Mine

/-! LClo3 -/
set_option maxRecDepth 10000
namespace Mine
open PySem PySem.W PyProof.Rows

theorem closure_go {env : Env} (cf : Str → Addr) (body : Str × NameKind → List (Str × Addr) → Sem (ForInStep (List (Str × Addr))))
    (hb : ∀ p acc, body p acc = if p.2 == .free then (do let c ← cellOf env p.1; pure (.yield ((p.1, c) :: acc))) else pure (.yield acc)) :
    ∀ (names : List (Str × NameKind)) (acc : List (Str × Addr)), (∀ p ∈ names, p.2 = .free → env.cells.lookup p.1 = some (cf p.1)) →
      (forIn names acc body : Sem _) = pure (((names.filter fun p => p.2 == .free).map fun p => (p.1, cf p.1)).reverse ++ acc)
  | [], acc, _ => by simp
  | p :: r, acc, h => by
    rw [List.forIn_cons, hb]
    have hr := fun acc => closure_go cf body hb r acc fun q hq => h q (.tail _ hq)
    cases e : (p.2 == NameKind.free) with
    | false =>
      rw [if_neg (by decide), List.filter_cons_of_neg (by rw [e]; decide), ← hr]; rfl
    | true =>
      rw [if_pos rfl, List.filter_cons_of_pos (by rw [e])]
      unfold cellOf
      rw [h p (.head _) (eq_of_beq e), List.map_cons, List.reverse_cons, List.append_assoc, List.singleton_append, ← hr]; rfl
theorem closureFor_eq {env : Env} {scope : Scope} (cf : Str → Addr) (h : ∀ p ∈ scope.names, p.2 = .free → env.cells.lookup p.1 = some (cf p.1)) :
    closureFor scope env = pure (((scope.names.filter fun p => p.2 == .free).map fun p => (p.1, cf p.1)).reverse) := by
  unfold closureFor
  dsimp only
  rw [closure_go cf _ (fun ⟨a, b⟩ acc => rfl) scope.names [] h, List.append_nil]
  rfl

section
variable {C : Cx} {fr : Shape} {n : Nat} {vals vals' : List Slot} {mg : Str → Option Value} {t : TabSpec}

theorem Inv.extend {S S' : ASet} {s : Shared} (I : Inv C S s) (hs : ∀ a, S a → S' a) (h : ∀ a, S' a → S a ∨ (liveIn s.heap a ∧ ¬ C.isTab a)) : Inv C S' s :=
  ⟨fun b o e => ⟨(I.base b o e).1, hs _ (I.base b o e).2⟩, fun a q => (h a q).elim (I.live a) (·.1), fun t ht => (I.tab t ht).move (fun _ e => e) hs fun _ _ _ e => e, fun a q => (h a q).elim (I.notab a) (·.2), I.gens, I.os⟩

/-- one address outside of S changes, some are new -/
theorem step_change {hb S : ASet} {s : Shared} {h' : Heap} {tk : Nat} {a : Addr} (I : Inv C S s) (hk : ∀ b x, b ≠ a → s.heap.get? b = some x → h'.get? b = some x) (nS : ¬ S a) (nt : ¬ C.isTab a) (nb : ¬ hb a) : Step C hb S s S { s with heap := h', toks := tk } where
  inv := ⟨fun b o e => ⟨hk _ _ (fun q => nS (q ▸ (I.base b o e).2)) (I.base b o e).1, (I.base b o e).2⟩, fun b q => by
      obtain ⟨o, e⟩ := Option.isSome_iff_exists.mp (I.live b q)
      exact live_of (hk b o (fun q' => nS (q' ▸ q)) e),
    fun t ht => (I.tab t ht).move (fun o e => hk _ _ (fun q => nt ⟨t, ht, q⟩) e) (fun _ h => h) fun b o q e => hk _ _ (fun q' => nS (q' ▸ q)) e, I.notab, I.gens, I.os⟩
  sub := fun _ h => h
  new := fun _ h => .inl h
  kept := fun b o _ q e => hk _ _ (fun q' => by subst q'; exact q.elim nb nS) e

theorem cellsOk_of {S : ASet} {h : Heap} (cf : Str → Addr) : ∀ (cells : List (Str × VP)), (∀ b ∈ cells, S (cf b.1) ∧ ∃ v, h.IsCell (cf b.1) (some v) ∧ b.2.P S h v) → CellsOk S h (cells.map fun b => (b.1, cf b.1)) cells
  | [], _ => trivial
  | b :: r, k => ⟨⟨rfl, (k b (.head _)).1, (k b (.head _)).2⟩, cellsOk_of cf r fun q hq => k q (.tail _ hq)⟩

noncomputable abbrev cellIn (env : Env) (x : Str) : Addr := (env.cells.lookup x).getD 0

/-- cells that the frame holds -/
noncomputable def CellSlots (fr : Shape) (vals : List Slot) (cells : List (Str × VP)) : Prop :=
  ∀ b ∈ cells, (∃ i : Nat, fr.names[i]? = some b.1 ∧ vals[i]? = some (.val b.2)) ∧ fr.scope.names.lookup b.1 = some .cell ∧ b.1 ∈ fr.cells

theorem CellSlots.at {hb env A S s} {cells : List (Str × VP)} (F : FrameOk C fr n hb env A S s vals) (H : CellSlots fr vals cells) : ∀ b ∈ cells, env.cells.lookup b.1 = some (cellIn env b.1) ∧ ¬ hb (cellIn env b.1) ∧ ¬ S (cellIn env b.1) ∧ ∃ v, s.heap.IsCell (cellIn env b.1) (some v) ∧ b.2.P S s.heap v := fun b hb' => by
  obtain ⟨⟨i, h1, h2⟩, h3, h4⟩ := H b hb'
  obtain ⟨c, e1, e2, e3⟩ := F.ownc b.1 h4
  have ec : cellIn env b.1 = c := by unfold cellIn; rw [e1]; rfl
  obtain ⟨f, _, hsl, _⟩ := F.slots
  obtain ⟨v, hv, hp⟩ := hsl i b.1 _ h1 h2
  refine ⟨by rw [e1, ec], by rw [ec]; exact e2, by rw [ec]; exact e3, v, ?_, hp⟩
  rcases hv with ⟨q, _⟩ | ⟨_, c', q1, q2⟩
  · rw [kindOf_eq, F.scope, h3] at q; cases q
  · rw [e1] at q1; cases q1; rw [ec]; exact q2

theorem CellSlots.closure {hb env A S s} {cells : List (Str × VP)} {scope : Scope} (F : FrameOk C fr n hb env A S s vals) (H : CellSlots fr vals cells) (hn : ((scope.names.filter fun p => p.2 == .free).map (·.1)).reverse = cells.map (·.1)) :
    closureFor scope env = pure (cells.map fun b => (b.1, cellIn env b.1)) := by
  rw [closureFor_eq (cellIn env)]
  · congr 1
    have := congrArg (List.map fun x => (x, cellIn env x)) hn
    rw [List.map_map, List.map_reverse, List.map_map] at this
    exact this
  · intro p hp hf
    have : p.1 ∈ cells.map (·.1) := by
      rw [← hn, List.mem_reverse]
      exact List.mem_map_of_mem (List.mem_filter.mpr ⟨hp, by rw [hf]; rfl⟩)
    obtain ⟨b, hb', e⟩ := List.mem_map.mp this
    rw [← e]; exact (H.at F b hb').1

/-- a function is laid on another as an attribute; both are handed on, with the cells -/
theorem fun_finish {hb hb' : ASet} {env : Env} {A : Around} {S : ASet} {s : Shared} {cells : List (Str × VP)} {f0 f1 c' : Addr} {o0 : Obj} {fd0 : FuncData} {name qual attr : Str} {params : Arguments} {body : FuncBody} {scope : Scope} {dV doc pm ctv : Value} {dflt : Option (List VP)}
    (F : FrameOk C fr n hb' env A S s vals) (hle : ∀ b, hb b → hb' b) (H : CellSlots fr vals cells) (h0 : s.heap.get? f0 = some o0) (hc0 : o0.cls = .type "function") (hd0 : o0.data = .func fd0) (hn0 : o0.dict = none) (nS0 : ¬ S f0) (nb0 : ¬ hb f0)
    (h1 : s.heap.get? f1 = some (kdv_obj name qual params body scope (cells.map fun b => (b.1, cellIn env b.1)) dV doc pm c' ctv)) (nb1 : ¬ hb f1) (hne : f1 ≠ f0) (hS : S c') (hrec : s.heap.CodeRec (.ref c') qual) (hdf : DfltOk S s.heap dV dflt)
    (hty : typeLookup (.type "function") attr = pure none) :
    wpAny C.M A (setAttr (.ref f0) attr (.ref f1)) (fun _ s' => (∃ S', Step C hb S s S' s' ∧ (vFun [(attr, vClo name qual params body scope dflt cells)]).P S' s'.heap (.ref f0)) ∧ ∀ x v, Holds env s.heap x v → Holds env s'.heap x v) F0 s := by
  refine setAttr_fn h0 hc0 hd0 hn0 hty fun h' tk es m hk e0 ed hes => ?_
  have I := F.inv
  have nt0 : ¬ C.isTab f0 := I.notab_of h0 fun vs q => by rw [hd0] at q; cases q
  have nt1 : ¬ C.isTab f1 := I.notab_of h1 fun vs q => by cases q
  have fresh : s.heap.get? s.heap.objs.size = none := Heap.get?_none_of_le (Nat.le_refl _)
  have ntd : ¬ C.isTab s.heap.objs.size := fun pq => by
    obtain ⟨t, ht, q⟩ := pq
    obtain ⟨ps, e, _⟩ := I.tab t ht
    rw [q, fresh] at e; cases e
  have st : Step C hb S s S { s with heap := h', toks := tk } := step_change I hk nS0 nt0 nb0
  have cellNe : ∀ b ∈ cells, cellIn env b.1 ≠ f0 := fun b hb' q => by
    obtain ⟨_, _, _, v, ⟨o, e, hc⟩, _⟩ := H.at F b hb'
    rw [q, h0] at e; cases e; rw [hd0] at hc; cases hc
  let S' : ASet := fun a => S a ∨ a = f0 ∨ a = f1 ∨ a = s.heap.objs.size ∨ ∃ b ∈ cells, a = cellIn env b.1
  have sub : ∀ a, S a → S' a := fun _ h => .inl h
  have h1' : h'.get? f1 = some _ := hk _ _ hne h1
  have I' : Inv C S' { s with heap := h', toks := tk } := st.inv.extend sub fun a q => by
    rcases q with q | rfl | rfl | rfl | ⟨b, hb', rfl⟩
    · exact .inl q
    · exact .inr ⟨live_of e0, nt0⟩
    · exact .inr ⟨live_of h1', nt1⟩
    · exact .inr ⟨live_of ed, ntd⟩
    · obtain ⟨_, _, _, v, hc, _⟩ := H.at F b hb'
      refine .inr ⟨?_, I.notab_cell hc⟩
      obtain ⟨o, e, _⟩ := hc
      exact live_of (hk _ _ (cellNe b hb') e)
  refine ⟨⟨S', ⟨I', fun a q => .inl q, fun a q => ?_, st.kept⟩, f0, _, fd0, s.heap.objs.size, es, m, rfl, .inr (.inl rfl), .inr (.inr (.inr (.inl rfl))), e0, hc0, hd0, rfl, ed, ?_⟩, fun x v hx => ?_⟩
  · rcases q with q | rfl | rfl | rfl | ⟨b, hb', rfl⟩
    · exact .inl q
    · exact .inr nb0
    · exact .inr nb1
    · exact .inr fun q => not_live fresh (F.alive _ (hle _ q))
    · exact .inr fun q => (H.at F b hb').2.1 (hle _ q)
  · obtain ⟨hsh, tt, rfl⟩ := hes
    refine ⟨⟨⟨tt, rfl⟩, f1, _, dV, doc, pm, c', ctv, rfl, .inr (.inr (.inl rfl)), h1', .inl hS, ?_, ?_, ?_⟩, trivial⟩
    · obtain ⟨c2, o, vs, tt, e, g, r⟩ := hrec
      cases e
      exact ⟨_, o, vs, tt, rfl, hk _ _ (fun q => nS0 (q ▸ hS)) g, r⟩
    · cases dflt with
      | none => exact hdf
      | some ps =>
        obtain ⟨tp, vs, q1, q2, q3, q4⟩ := hdf
        exact ⟨tp, vs, q1, .inl q2, hk _ _ (fun q => nS0 (q ▸ q2)) q3, (q4.keep (st.keeps I)).mono sub⟩
    · refine cellsOk_of (cellIn env) cells fun b hb' => ?_
      obtain ⟨_, _, _, v, ⟨o, e, hc⟩, hp⟩ := H.at F b hb'
      exact ⟨.inr (.inr (.inr (.inr ⟨b, hb', rfl⟩))), v, ⟨o, hk _ _ (cellNe b hb') e, hc⟩, b.2.mono sub (b.2.keep (st.keeps I) hp)⟩
  · rcases hx with ⟨a, mm, ⟨o, es', ep, e, hdd, r⟩, z⟩ | ⟨a, c, b, o, e, hc⟩
    · exact .inl ⟨a, mm, ⟨o, es', ep, hk _ _ (fun q => by rw [q, h0] at e; cases e; rw [hd0] at hdd; cases hdd) e, hdd, r⟩, z⟩
    · exact .inr ⟨a, c, b, o, hk _ _ (fun q => by rw [q, h0] at e; cases e; rw [hd0] at hc; cases hc) e, hc⟩

theorem lam_eval {A : Around} {E : Value → Shared → Prop} {S : ASet} {s : Shared} {env : Env} {qual : Str} {params : Arguments} {body : Expr} {scope : Scope} {clos : List (Str × Addr)} {pos : Pos} {Q : Value → Shared → Prop}
    (T : MakerOk C mg t) (I : Inv C S s) (hcode : env.code = .ref t.c) (hglob : env.globals = mainGlobals) (hq : env.qual ++ "<lambda>" = qual) (hm : (pos, qual) ∈ t.made) (hu : ∀ x ∈ t.made, pos.line = x.1.line → pos.col = x.1.col → x.2 = qual) (hcl : closureFor scope env = pure clos)
    (hdef : defaultsOf params env = ([], []))
    (h : ∀ f c' ctv doc S' s', Grow C S s S' s' → s.heap.get? f = none → ¬ S' f → s'.heap.get? f = some (kdv_obj "<lambda>" qual params (.expr body) scope clos .none doc ((mg "__name__").getD .none) c' ctv) → S' c' → s'.heap.CodeRec (.ref c') qual → Q (.ref f) s') :
    wpAny C.M A (eval (.Lambda params body scope pos) env) Q E s := by
  refine kla_eval hdef ?_
  rw [makeFunction_eq]
  simp only [List.zip_nil_right, List.filterMap_nil, List.isEmpty_nil, if_true, pure_bind]
  rw [hq]
  exact make_fn T I hcode hglob hm hu hcl h

theorem foreign_fn {h : Heap} {f : Addr} {o : Obj} {fd : FuncData} (e : h.get? f = some o) (hc : o.cls = .type "function") (hd : o.data = .func fd) : Foreign h f :=
  ⟨o, e, by rw [hc]; decide, (fun _ _ q => by rw [hd] at q; cases q), (fun _ q => by rw [hd] at q; cases q), by rw [hc]; decide⟩

end
end Mine

/-! LHit -/
set_option maxRecDepth 10000
namespace Mine
open PySem PySem.W PyProof.Rows

section
variable {C : Cx} {fr : Shape} {n : Nat} {vals vals' : List Slot} {mg : Str → Option Value} {t : TabSpec}

/-- where a function is made -/
structure MadeAt (t : TabSpec) (pos : Pos) (qual : Str) : Prop where
  mem : (pos, qual) ∈ t.made
  uniq : ∀ x ∈ t.made, pos.line = x.1.line → pos.col = x.1.col → x.2 = qual

theorem set_get {vals : List Slot} {names : List Str} {i : Nat} {x : Str} {t : Slot} (hi : names[i]? = some x) (hl : names.length = vals.length) : (vals.set i t)[i]? = some t := by
  rw [List.getElem?_set_self]
  rw [← hl]; exact (List.getElem?_eq_some_iff.mp hi).1

theorem FnG.hit {a : Addr} {fd : FuncData} {xs : List Str} {ps : List VP} {x attr q0 : Str} {p1 p2 p3 p4 p5 p6 p7 lp0 lp1 : Pos} {pr0 pr1 : Arguments} {e0 e1 : Expr} {sc0 sc1 : Scope} {cells : List (Str × VP)} (i : Nat)
    (D : DefOk C a fd [.Assign [.Name x p1] (.Lambda pr0 e0 sc0 lp0) p2, .Assign [.Attribute (.Name x p3) attr p4] (.Lambda pr1 e1 sc1 lp1) p5, .Return (some (.Name x p6)) p7] xs fr) (hl : ps.length = xs.length)
    (T : MakerOk C mg t) (hc : fd.code = .ref t.c) (hq : fd.qualname ++ ".<locals>." ++ "<lambda>" = q0) (M0 : MadeAt t lp0 q0) (M1 : MadeAt t lp1 q0) (hi : fr.names[i]? = some x) (hst : canStore fr x = true)
    (hn0 : ((sc0.names.filter fun p => p.2 == .free).map (·.1)).reverse = []) (hn1 : ((sc1.names.filter fun p => p.2 == .free).map (·.1)).reverse = cells.map (·.1))
    (hcs : ∀ q, CellSlots fr ((startVals ps (fr.names.length - xs.length)).set i (.val q)) cells) (hty : typeLookup (.type "function") attr = pure none)
    (hd0 : ∀ env, defaultsOf pr0 env = ([], []) := by intro _; rfl) (hd1 : ∀ env, defaultsOf pr1 env = ([], []) := by intro _; rfl)
    (hs1 : ∀ env, swapsWith (.Lambda pr0 e0 sc0 lp0) (some (.Name x p1)) p2.line env = pure false := by intro _; rfl) (hs2 : ∀ env, swapsWith (.Lambda pr1 e1 sc1 lp1) (some (.Attribute (.Name x p3) attr p4)) p5.line env = pure false := by intro _; rfl)
    (hdb : (x == ("__debug__" : Str)) = false := by decide) (hcd : (x == ("__classdict__" : Str)) = false := by decide) :
    FnG C (n + 1) (.ref a) ps (vFun [(attr, vClo "<lambda>" q0 pr1 (.expr e1) sc1 none cells)]) := by
  refine FnG.topAt D hl fun hb env A S s hcode hqual _ F => ?_
  have hlen : fr.names.length = (startVals ps (fr.names.length - xs.length)).length := by obtain ⟨f, e, _⟩ := F.slots; exact e
  refine wpAny_execs_cons (wpAny_Assign_Name (lam_eval T F.inv (hcode.trans hc) F.globals (by rw [hqual]; exact hq) M0.mem M0.uniq (CellSlots.closure F (cells := []) (fun b q => nomatch q) hn0) (hd0 env) fun f0 c0 ctv0 doc0 S1 s1 g1 hf0n nS0 hf0 _ _ => ?_) (hs1 env))
  have F1 := F.grow g1
  have nt0 : ¬ C.isTab f0 := F1.inv.notab_of hf0 fun vs q => by cases q
  have P1 := F1.protect (wr := [f0]) fun b hb' => by cases List.mem_singleton.mp hb'; exact foreign_fn hf0 rfl rfl
  refine P1.store (p := vIs (.ref f0)) hi D.nodup hst rfl fun s2 st2 F2 _ => ?_
  have hf0' := st2.kept f0 _ nt0 (.inl (.inr (.head _))) hf0
  have hcs' := hcs (vIs (.ref f0))
  refine wpAny_execs_cons (plainObj_wpAny_Assign_Attribute (lam_eval T F2.inv (hcode.trans hc) F2.globals (by rw [hqual]; exact hq) M1.mem M1.uniq (CellSlots.closure F2 hcs' hn1) (hd1 env) fun f1 c1 ctv1 doc1 S3 s3 g3 hf1n nS1 hf1 hS1 hrec1 => ?_) (hs2 env))
  have F3 := F2.grow g3
  obtain ⟨f, _, hsl, _⟩ := F3.slots
  obtain ⟨v', y, z⟩ := hsl i x _ hi (set_get hi hlen)
  cases (show v' = .ref f0 from z)
  refine wpAny_Name (y.load F3.kind hcd ?_) hdb
  have nb0 : ¬ hb f0 := fun q => not_live hf0n (F.alive _ q)
  have nb1 : ¬ hb f1 := fun q => not_live hf1n (F2.alive _ (.inl q))
  have hne : f1 ≠ f0 := fun q => by rw [q, hf0'] at hf1n; cases hf1n
  have nS0' : ¬ S3 f0 := fun q => (g3.new _ q).elim nS0 fun e => e (live_of hf0')
  refine wpAny_mono (fun_finish (hb := hb) F3 (fun _ h => .inl h) hcs' (g3.all _ _ nt0 hf0') rfl rfl rfl nS0' nb0 hf1 nb1 hne hS1 hrec1 (dflt := none) rfl hty) (fun _ s4 pq => ?_) fun _ _ z => z
  obtain ⟨⟨S', st4, hP⟩, hHolds⟩ := pq
  refine wpAny_execs_cons (wpAny_Return_some (wpAny_Name ((hHolds _ _ y).load F3.kind hcd ?_) hdb))
  exact ⟨S', (((F.stepGrow g1).trans (st2.weaken fun _ h => .inl h)).trans ((F2.stepGrow g3).weaken fun _ h => .inl h)).trans st4, hP⟩

theorem FnG.prog {a : Addr} {fd : FuncData} {xs : List Str} {ps : List VP} {sn x attr q0 q1 : Str} {p1 p2 p3 p4 p5 p6 p7 p8 fp lp0 : Pos} {pr0 pr1 : Arguments} {e0 : Expr} {sbody : List Stmt} {sc0 sc1 : Scope} {cells : List (Str × VP)} {dk : Nat} {dp : Pos} {dv : Int} (i j : Nat)
    (D : DefOk C a fd [.FunctionDef sn pr1 sbody [] none [] sc1 none sn fp, .Assign [.Name x p1] (.Lambda pr0 e0 sc0 lp0) p2, .Assign [.Attribute (.Name x p3) attr p4] (.Name sn p8) p5, .Return (some (.Name x p6)) p7] xs fr) (hl : ps.length = xs.length)
    (T : MakerOk C mg t) (hc : fd.code = .ref t.c) (hq : fd.qualname ++ ".<locals>." ++ "<lambda>" = q0) (hqs : ∀ env : Env, env.qual = fd.qualname ++ ".<locals>." → env.scope = fr.scope → qualnameIn env sn sn = q1) (M0 : MadeAt t lp0 q0) (M1 : MadeAt t fp q1)
    (hi : fr.names[i]? = some x) (hst : canStore fr x = true) (hj : fr.names[j]? = some sn) (hstj : canStore fr sn = true) (hij : i ≠ j)
    (hdv : pr1.defaults = [.Constant (.int dv) dk dp]) (hkd : pr1.kw_defaults = []) (hann : ∀ env, annTrees pr1 none env = [])
    (hn0 : ((sc0.names.filter fun p => p.2 == .free).map (·.1)).reverse = []) (hn1 : ((sc1.names.filter fun p => p.2 == .free).map (·.1)).reverse = cells.map (·.1))
    (hcs0 : CellSlots fr (startVals ps (fr.names.length - xs.length)) cells)
    (hcs : ∀ q q', CellSlots fr (((startVals ps (fr.names.length - xs.length)).set j (.val q)).set i (.val q')) cells) (hty : typeLookup (.type "function") attr = pure none)
    (hd0 : ∀ env, defaultsOf pr0 env = ([], []) := by intro _; rfl)
    (hs1 : ∀ env, swapsWith (.Lambda pr0 e0 sc0 lp0) (some (.Name x p1)) p2.line env = pure false := by intro _; rfl) (hs2 : ∀ env, swapsWith (.Name sn p8) (some (.Attribute (.Name x p3) attr p4)) p5.line env = pure false := by intro _; rfl)
    (hdb : (x == ("__debug__" : Str)) = false := by decide) (hcd : (x == ("__classdict__" : Str)) = false := by decide)
    (hdbj : (sn == ("__debug__" : Str)) = false := by decide) (hcdj : (sn == ("__classdict__" : Str)) = false := by decide) :
    FnG C (n + 1) (.ref a) ps (vFun [(attr, vClo sn q1 pr1 (.stmts sbody) sc1 (some [vInt dv]) cells)]) := by
  refine FnG.topAt D hl fun hb env A S s hcode hqual _ F => ?_
  have hlen : fr.names.length = (startVals ps (fr.names.length - xs.length)).length := by obtain ⟨f, e, _⟩ := F.slots; exact e
  refine wpAny_execs_cons (kdv_def (by rw [hdv]; rfl) hkd (hann env) ?_)
  rw [hdv]
  refine kdv_all1 (wpAny_Constant_int (kdv_all0 ?_))
  have g0 : Grow C S s S { s with toks := s.toks + 1 } := Grow.tok F.inv _
  have Fa := F.grow g0
  rw [makeFunction_eq]
  simp only [List.zip_nil_right, List.filterMap_nil, List.isEmpty_nil, if_true, pure_bind, List.isEmpty_cons, Bool.false_eq_true, if_false]
  refine wpAny_bind (wpAny_newTextTuple ?_)
  rw [hqs env hqual F.scope]
  have gt := grow_push (C := C) (tk := s.toks + 1) (o := kdv_tup [.int dv s.toks]) (S := S) (s := s) F.inv rfl
  have Ft := F.grow gt
  refine make_fn T gt.inv (hcode.trans hc) F.globals M1.mem M1.uniq (CellSlots.closure F hcs0 hn1) fun f1 c1 ctv1 doc1 S1 s1 g1 hf1n nS1 hf1 hS1 hrec1 => ?_
  have F1 := Ft.grow g1
  have nt1 : ¬ C.isTab f1 := F1.inv.notab_of hf1 fun vs q => by cases q
  have P1 := F1.protect (wr := [f1]) fun b hb' => by cases List.mem_singleton.mp hb'; exact foreign_fn hf1 rfl rfl
  refine P1.store (p := vIs (.ref f1)) hj D.nodup hstj rfl fun s2 st2 F2 _ => ?_
  have hf1' := st2.kept f1 _ nt1 (.inl (.inr (.head _))) hf1
  refine wpAny_execs_cons (wpAny_Assign_Name (lam_eval T F2.inv (hcode.trans hc) F2.globals (by rw [hqual]; exact hq) M0.mem M0.uniq (CellSlots.closure F2 (cells := []) (fun b q => nomatch q) hn0) (hd0 env) fun f0 c0 ctv0 doc0 S3 s3 g3 hf0n nS0 hf0 _ _ => ?_) (hs1 env))
  have F3 := F2.grow g3
  have nt0 : ¬ C.isTab f0 := F3.inv.notab_of hf0 fun vs q => by cases q
  have hf1'' := g3.all _ _ nt1 hf1'
  have P3 := F3.protect (wr := [f0]) fun b hb' => by cases List.mem_singleton.mp hb'; exact foreign_fn hf0 rfl rfl
  refine P3.store (p := vIs (.ref f0)) hi D.nodup hst rfl fun s4 st4 F4 _ => ?_
  have hf0' := st4.kept f0 _ nt0 (.inl (.inr (.head _))) hf0
  have hf1q := st4.kept f1 _ nt1 (.inl (.inl (.inr (.head _)))) hf1''
  obtain ⟨f, hL, hsl, _⟩ := F4.slots
  obtain ⟨v', y, z⟩ := hsl i x _ hi (set_get hi (by rw [List.length_set]; exact hlen))
  cases (show v' = .ref f0 from z)
  obtain ⟨v', y1, z⟩ := hsl j sn _ hj (by rw [List.getElem?_set_ne hij]; exact set_get hj hlen)
  cases (show v' = .ref f1 from z)
  refine wpAny_execs_cons (plainObj_wpAny_Assign_Attribute (wpAny_Name (y1.load F4.kind hcdj (wpAny_Name (y.load F4.kind hcd ?_) hdb)) hdbj) (hs2 env))
  have nb1 : ¬ hb f1 := fun q => not_live hf1n (Ft.alive _ q)
  have nb0 : ¬ hb f0 := fun q => not_live hf0n (F2.alive _ (.inl q))
  have hne : f1 ≠ f0 := fun q => by rw [← q, hf1'] at hf0n; cases hf0n
  have sz : S1 s.heap.objs.size := g1.sub _ (.inr rfl)
  have ht1 : s1.heap.get? s.heap.objs.size = some (kdv_tup [.int dv s.toks]) := g1.keeps gt.inv _ _ (.inr rfl) (Heap.get?_push_size _ rfl)
  have ht4 : s4.heap.get? s.heap.objs.size = some (kdv_tup [.int dv s.toks]) := st4.keeps F3.inv _ _ (g3.sub _ sz) (g3.keeps F2.inv _ _ sz (st2.keeps F1.inv _ _ sz ht1))
  have hr4 : s4.heap.CodeRec (.ref c1) q1 := by
    obtain ⟨c, o, vs, tt, e, g, r⟩ := hrec1
    cases e
    exact ⟨_, o, vs, tt, rfl, st4.keeps F3.inv _ _ (g3.sub _ hS1) (g3.keeps F2.inv _ _ hS1 (st2.keeps F1.inv _ _ hS1 g)), r⟩
  refine wpAny_mono (fun_finish (hb := hb) F4 (fun _ h => .inl (.inl h)) (hcs _ _) hf0' rfl rfl rfl nS0 nb0 hf1q nb1 hne (g3.sub _ hS1) hr4 (dflt := some [vInt dv]) ⟨_, _, rfl, g3.sub _ sz, ht4, ⟨_, rfl⟩, trivial⟩ hty) (fun _ s5 pq => ?_) fun _ _ z => z
  obtain ⟨⟨S', st5, hP⟩, hHolds⟩ := pq
  refine wpAny_execs_cons (wpAny_Return_some (wpAny_Name ((hHolds _ _ y).load F4.kind hcd ?_) hdb))
  exact ⟨S', (((((F.stepGrow gt).trans (Ft.stepGrow g1)).trans (st2.weaken fun _ h => .inl h)).trans ((F2.stepGrow g3).weaken fun _ h => .inl h)).trans (st4.weaken fun _ h => .inl (.inl h))).trans st5, hP⟩

end
end Mine

/-! LUse -/
set_option maxRecDepth 10000
namespace Mine
open PySem PySem.W PyProof.Rows

/-- a function on the heap -/
noncomputable def VP.IsFn (q : VP) : Prop := ∀ S h v, q.P S h v → ∃ f o fd, v = .ref f ∧ S f ∧ h.get? f = some o ∧ o.data = .func fd
theorem isFn_clo {name qual params body scope dflt cells} : (vClo name qual params body scope dflt cells).IsFn :=
  fun _ _ _ x => by obtain ⟨f, _, _, _, _, _, _, e, h1, h2, _⟩ := x; exact ⟨f, _, _, e, h1, h2, rfl⟩

section
variable {C : Cx} {fr : Shape} {n : Nat} {vals vals' : List Slot}

theorem notNone_fun {attrs} : (vFun attrs).NotNone := fun _ _ _ x => by obtain ⟨f, _, _, _, _, _, e, _⟩ := x; rw [e]; nofun

theorem TruG.fun_ {attrs} : TruG C (vFun attrs) true := fun A S s v I _ pq => by
  obtain ⟨f, o, fd, d, es, m, e, h1, h2, h3, h4, _⟩ := pq
  subst e
  exact truthy_fn h3 h4 ⟨rfl, S, .refl I⟩
theorem TruG.none_ : TruG C vNone false := fun A S s v I _ e => by
  cases (show v = .none from e)
  exact wpAny_pure ⟨rfl, S, .refl I⟩

theorem Ev.callAttr {o : Expr} {name : Str} {apos pos : Pos} {args : List Expr} {attrs : List (Str × VP)} {q : VP} {ps : List VP} {r : VP} (ho : Ev C fr n vals o (vFun attrs)) (hq : attrs.lookup name = some q) (hfn : q.IsFn) (ha : EvArgs C fr n vals args ps)
    (hty : typeLookup (.type "function") name = pure Option.none) (hc : CallG C n q ps r) (hbase : ∀ env, attributeBase o name env (eval o env) = eval o env := by intro _; rfl) (hlen : args.length < 30 := by decide) (hline : (apos.endLine == pos.line) = true := by rfl) :
    Ev C fr n vals (.Call (.Attribute o name apos) args [] pos) r := fun hb env A S s F => by
  refine (arm_eval_Call o name apos args [] pos env) ▸ ?_
  rw [hbase]
  refine wpAny_bind (Gives.seq (q := r) (ho hb env A S s F) fun v S₁ s₁ g hp => ?_)
  refine wpAny_bind (wpAny_standAt ?_)
  have hs := ha.1 env
  have hs' : (backTo pos (starEach args env)).all (fun x => !x.1) = true := by
    unfold backTo
    rw [List.all_map]
    have := hs.1
    rw [List.any_eq_false] at this
    rw [List.all_eq_true]
    intro y hy
    have := this y hy
    show (!y.1) = true
    cases hq : y.1 with
    | false => rfl
    | true => exact absurd hq this
  have hform : methodCallForm (args.length + ([] : List Keyword).length) (backTo pos (starEach args env)) (backToKw pos (keywordEach [] env)) = true := by
    unfold methodCallForm
    rw [hs']
    show (true && true && decide (args.length + 0 + 0 < 30)) = true
    simpa using hlen
  have hpos : methodCallPos true o env apos pos = pure pos := by unfold methodCallPos; simp [hline]
  unfold methodCall calleeOf
  rw [hform, if_pos rfl]
  obtain ⟨f, ob, fd, d, es, m, e, h1, h2, h3, h4, h5, h6, h7, h8⟩ := hp
  subst e
  obtain ⟨w, hw, hqw⟩ := h8.get hq
  obtain ⟨f', o', fd', e', k1, k2, k3⟩ := hfn _ _ _ hqw
  subst e'
  refine wpAny_bind (wpAny_holding (getMethod_fn h3 h4 h5 h6 h7 hty hw rfl ?_))
  refine wpAny_bind (wpAny_of_eq hpos ?_)
  have g' : Grow C S₁ s₁ S₁ { s₁ with toks := s₁.toks + 1 } := Grow.tok g.inv _
  have F₁ := (F.grow g).grow g'
  have hsv : (backTo pos (starEach args env)).any (·.1) = false := by
    unfold backTo; rw [List.any_map]; exact hs.1
  refine callWith_of (P := fun h => h.get? f' = some o') (by rw [hsv]; rfl) (fun h k => ⟨.frame, .inl rfl, fun A Q E s k' q => ?_⟩) (evalArgs_of hs.1 (wpAny_mono (ha.2 hb env A S₁ _ pos F₁) (fun vs s₂ ⟨S₂, g₂, x⟩ => ⟨g₂.keeps F₁.inv _ _ k1 k2, ?_⟩) fun _ _ z => z))
  · unfold keeperOf
    refine wpAny_bind (wpAny_load (k' _ _ k) ?_)
    rw [k3]; exact wpAny_pure q
  · exact wpAny_mono (hc A S₂ s₂ (.ref f') vs g₂.inv F.around (q.mono g₂.sub (q.keep (g₂.keeps F₁.inv) hqw)) x) (fun _ _ ⟨S₃, g₃, z⟩ => ⟨S₃, ((g.trans g').trans g₂).trans g₃, z⟩) fun _ _ z => z

end
end Mine

/-! LMap -/
set_option maxRecDepth 100000
namespace Mine
open PySem PySem.W PyProof.Rows

theorem mapInit : PySem.Slot "map" "__init__" "object.__init__" :=
  .of (owner := "object") (n := "__init__") (by rw [typeLookup_type, builtinLookup_eq_fast]; kernel_rfl) (by decide +kernel) (by decide +kernel) (by decide +kernel) (by first | exact .inl (by decide +kernel) | exact .inr (by decide +kernel)) (by rw [isSubtype_type]; kernel_rfl)
theorem mapNext : PySem.Slot "map" "__next__" "map.__next__" :=
  .of (owner := "map") (n := "__next__") (by rw [typeLookup_type, builtinLookup_eq_fast]; kernel_rfl) (by decide +kernel) (by decide +kernel) (by decide +kernel) (by first | exact .inl (by decide +kernel) | exact .inr (by decide +kernel)) (by rw [isSubtype_type]; kernel_rfl)
theorem mapIter : PySem.Slot "map" "__iter__" "map.__iter__" :=
  .of (owner := "map") (n := "__iter__") (by rw [typeLookup_type, builtinLookup_eq_fast]; kernel_rfl) (by decide +kernel) (by decide +kernel) (by decide +kernel) (by first | exact .inl (by decide +kernel) | exact .inr (by decide +kernel)) (by rw [isSubtype_type]; kernel_rfl)
theorem mapEntryNext : entryFor table "map.__next__" = some Builtin.«map.__next__» := entryFor_of_tree (by kernel_rfl)
theorem mapEntryNew : entryFor table "map.__new__" = some Builtin.«map.__new__» := entryFor_of_tree (by kernel_rfl)
theorem mapEntryIter : entryFor table "map.__iter__" = some Builtin.«dict_keyiterator.__iter__» :=
  entryFor_alias (id' := "dict_keyiterator.__iter__") (by kernel_rfl) (by first | rfl | decide +kernel | (unfold String.splitOn; simp +decide [String.splitOnAux])) (by decide +kernel) (by kernel_rfl)
theorem mapMro : mroOf (.type "map") = pure [.type "map", .type "object"] := by rw [mroOf_type]; kernel_rfl
theorem mapLookNew : typeLookup (.type "map") "__new__" = pure (some (.builtin "map.__new__")) := by rw [typeLookup_type, builtinLookup_eq_fast]; kernel_rfl
theorem mapCalled : TypeCalled "map" "map.__new__" "object.__init__" :=
  ⟨by decide +kernel, by decide +kernel, ⟨_, _, mapMro⟩, madeBy_type mapMro mapLookNew (by decide +kernel), by decide +kernel, by rw [isSubtype_type]; kernel_rfl, mapInit⟩
theorem mapType2 (a b : Value) : checkTypeCall "map" ⟨[a, b], []⟩ = pure () := by kernel_rfl
theorem mapNew2 (a b : Value) : checkBuiltinCall "map.__new__" ⟨[.type "map", a, b], []⟩ = pure () := by kernel_rfl
theorem mapArgsNext (a : Value) : argsOk "map.__next__" ⟨[a], []⟩ := by unfold argsOk; kernel_rfl
theorem mapArgsIter (a : Value) : argsOk "map.__iter__" ⟨[a], []⟩ := by unfold argsOk; kernel_rfl
theorem mapSub : isSubtype (.type "map") (.type "map") = pure true := by rw [isSubtype_type]; kernel_rfl

noncomputable abbrev IsMap (h : Heap) (z T : Addr) (f : Value) : Prop := h.get? z = some { cls := .type "map", dict := none, data := .fields #[.ref T, f], slots := #[] }
noncomputable abbrev IsOne (h : Heap) (T : Addr) (a : Value) : Prop := h.get? T = some { cls := .type "tuple", data := .seq #[a] }

noncomputable abbrev mapH1 (h : Heap) (l : Addr) : Heap := h.push { cls := .type "list_iterator", data := .fields #[.ref l, .int 0 0] }
noncomputable abbrev mapH2 (h : Heap) (l : Addr) : Heap := (mapH1 h l).push { cls := .type "tuple", data := .seq #[.ref h.objs.size] }
noncomputable abbrev mapH3 (h : Heap) (f : Value) (l : Addr) : Heap := (mapH2 h l).push { cls := .type "map", data := .fields #[.ref (mapH1 h l).objs.size, f] }

theorem meets_map_new (f : Value) (l : Addr) (xs : Array Value) :
    Meets (Builtin.«map.__new__» ⟨[.type "map", f, .ref l], []⟩) (fun _ R s => s.heap.IsList l xs ∧ R (.ok (.ret (.ref (mapH2 s.heap l).objs.size))) { s with heap := mapH3 s.heap f l }) :=
  .of_wp fun prog w A R s h => by
    obtain ⟨hp, g, d, tk, os⟩ := s; obtain ⟨hl1, h⟩ := h
    have hsub := mapSub
    have hL1 : Heap.IsList (Shared.heap ⟨hp, g, d, tk, os⟩) l xs := hl1
    wp_walk using wpAny_pyIter_list hL1
    exact ⟨_, rfl, h⟩

section
variable {prog : Program} {w : World} {A : Around} {E : Value → Shared → Prop} {s : Shared}

theorem map_next_item {z T i l : Addr} {k : Nat} {xs : Array Value} {x f : Value} {Q : Value → Shared → Prop} (hz : IsMap s.heap z T f) (hT : IsOne s.heap T (.ref i)) (hi : s.heap.IsListIter i l k) (hl : s.heap.IsList l xs) (hx : xs[k]? = some x) (hne : z ≠ i)
    (h : ∀ h', h'.IsListIter i l (k + 1) → Heap.SameBut i s.heap h' → wpAny (model prog w) A (call f [x]) Q E { s with heap := h' }) :
    wpAny (model prog w) A (Builtin.«map.__next__» ⟨[.ref z], []⟩) (fun fin s' => ∃ v, fin = .done (.ret v) ∧ Q v s') E s := by
  show wpAny _ _ (field (.ref z) 0 >>= _) _ _ _
  refine wpAny_bind (wpAny_field hz rfl (x := .ref T) rfl ?_)
  refine wpAny_bind (wpAny_seqItems hT rfl ?_)
  refine wpAny_bind ?_
  rw [← Array.forIn_toList]
  simp only [List.forIn_cons, List.forIn_nil]
  refine wpAny_bind (wpAny_bind (wpAny_holding (wpAny_nextOf_list_item hi hl hx fun h' hi' hs' => wpAny_pure (wpAny_pure ?_))))
  refine wpAny_bind (wpAny_field (hs'.extBut _ _ hne hz) rfl (x := f) rfl ?_)
  refine wpAny_bind (wpAny_holding (wpAny_mono (h h' hi' hs') (fun v s' hq => ?_) fun _ _ z => z))
  exact wpAny_bind (wpAny_letGo (wpAny_pure ⟨v, rfl, hq⟩))

theorem map_next_end {z T i l : Addr} {k : Nat} {xs : Array Value} {f : Value} {Q : Fin → Shared → Prop} (hh : A.handled = none) (hz : IsMap s.heap z T f) (hT : IsOne s.heap T (.ref i)) (hi : s.heap.IsListIter i l k) (hl : s.heap.IsList l xs) (hx : xs[k]? = none)
    (hE : ∀ h' e, Heap.ExtBut i s.heap h' → (∃ o, h'.get? e = some o ∧ o.cls = .type "StopIteration") → E (.ref e) { s with heap := h' }) :
    wpAny (model prog w) A (Builtin.«map.__next__» ⟨[.ref z], []⟩) Q E s := by
  show wpAny _ _ (field (.ref z) 0 >>= _) _ _ _
  refine wpAny_bind (wpAny_field hz rfl (x := .ref T) rfl ?_)
  refine wpAny_bind (wpAny_seqItems hT rfl ?_)
  refine wpAny_bind ?_
  rw [← Array.forIn_toList]
  simp only [List.forIn_cons, List.forIn_nil]
  exact wpAny_bind (wpAny_bind (wpAny_holding (wpAny_nextOf_list_end hh hi hl hx hE)))

theorem pyNext_map_item {z T i l : Addr} {k : Nat} {xs : Array Value} {x f : Value} {Q : Option Value → Shared → Prop} (hz : IsMap s.heap z T f) (hT : IsOne s.heap T (.ref i)) (hi : s.heap.IsListIter i l k) (hl : s.heap.IsList l xs) (hx : xs[k]? = some x) (hne : z ≠ i)
    (h : ∀ A' : Around, A'.handled = A.handled → A'.depth = A.depth → A'.units ≤ A.units + 5 → ∀ h', h'.IsListIter i l (k + 1) → Heap.SameBut i s.heap h' → wpAny (model prog w) A' (call f [x]) (fun v s' => Q (some v) s') F0 { s with heap := h' }) :
    wpAny (model prog w) A (pyNext (.ref z)) Q E s := by
  have hT' : s.TypeIs (.ref z) "map" := ⟨_, hz, rfl⟩
  unfold pyNext
  refine wpAny_bind (wpAny_attempt (wpAny_callSpecial?_slot (name := Str.ofString "__next__") hT' mapNext (wpAny_call_entry mapNext hT' mapEntryNext (map_next_item hz hT hi hl hx hne fun h' hi' hs' => ?_) (mapArgsNext _))))
  refine wpAny_mono (h _ ?_ ?_ ?_ h' hi' hs') (fun v s' hq => wpAny_pure hq) fun _ _ z => z.elim
  all_goals first | rfl | (simp; done) | (show _ ≤ _; simp)

theorem pyNext_map_end {z T i l : Addr} {k : Nat} {xs : Array Value} {f : Value} {Q : Option Value → Shared → Prop} (hh : A.handled = none) (hz : IsMap s.heap z T f) (hT : IsOne s.heap T (.ref i)) (hi : s.heap.IsListIter i l k) (hl : s.heap.IsList l xs) (hx : xs[k]? = none)
    (hQ : ∀ h', Heap.ExtBut i s.heap h' → Q none { s with heap := h' }) : wpAny (model prog w) A (pyNext (.ref z)) Q E s := by
  have hT' : s.TypeIs (.ref z) "map" := ⟨_, hz, rfl⟩
  unfold pyNext
  refine wpAny_bind (wpAny_attempt (wpAny_callSpecial?_slot (name := Str.ofString "__next__") hT' mapNext (wpAny_call_entry mapNext hT' mapEntryNext (map_next_end hh hz hT hi hl hx fun h' e hk he => ?_) (mapArgsNext _))))
  obtain ⟨o, ho, hc⟩ := he
  refine wpAny_bind (wpAny_isInstance (T := "StopIteration") (b := true) ⟨o, ho, hc⟩ isSubtype_stop ?_)
  exact wpAny_pure (hQ _ hk)

theorem pyIter_map {z T : Addr} {f : Value} {Q : Value → Shared → Prop} (hz : IsMap s.heap z T f) (h : Q (.ref z) s) : wpAny (model prog w) A (pyIter (.ref z)) Q E s := by
  have hT : s.TypeIs (.ref z) "map" := ⟨_, hz, rfl⟩
  refine wpAny_pyIter_slot hT mapIter (wpAny_call_entry mapIter hT mapEntryIter ?_ (mapArgsIter _))
  show wpAny _ _ (ret (.ref z)) _ _ s
  exact wpAny_pure ⟨_, rfl, "map", _, hT, mapNext.lookup, h⟩

theorem call_map {l : Addr} {xs : Array Value} {f : Value} {Q : Value → Shared → Prop} (hl : s.heap.IsList l xs)
    (h : ∀ h', IsMap h' (s.heap.objs.size + 2) (s.heap.objs.size + 1) f → IsOne h' (s.heap.objs.size + 1) (.ref s.heap.objs.size) → h'.IsListIter s.heap.objs.size l 0 → (∀ c o, s.heap.get? c = some o → h'.get? c = some o) → Q (.ref (s.heap.objs.size + 2)) { s with heap := h' }) :
    wpAny (model prog w) A (call (.type "map") [f, .ref l]) Q E s := by
  refine callType_new mapCalled (by decide) (mapType2 _ _) (mapNew2 _ _) (fun obj => PySem.F.args_object_init_3 obj _ _) mapEntryNew (meets_map_new f l xs) ⟨hl, ?_⟩
  have z1 : (mapH1 s.heap l).objs.size = s.heap.objs.size + 1 := Heap.size_push ..
  have z2 : (mapH2 s.heap l).objs.size = s.heap.objs.size + 2 := by rw [Heap.size_push, z1]
  have g3 : (mapH3 s.heap f l).get? (mapH2 s.heap l).objs.size = some _ := Heap.get?_push_size _ rfl
  have g2 : (mapH3 s.heap f l).get? (mapH1 s.heap l).objs.size = some _ := Heap.get?_push_of_some _ (Heap.get?_push_size _ rfl)
  have g1 : (mapH3 s.heap f l).get? s.heap.objs.size = some _ := Heap.get?_push_of_some _ (Heap.get?_push_of_some _ (Heap.get?_push_size _ rfl))
  show _ ∧ _
  rw [z1, z2] at g3
  rw [z1] at g2
  rw [z2]
  exact ⟨⟨_, g3, rfl⟩, h _ g3 g2 ⟨_, g1, rfl, rfl⟩ fun c o x => Heap.get?_push_of_some _ (Heap.get?_push_of_some _ (Heap.get?_push_of_some _ x))⟩
end

end Mine

/-! LMap2 -/
set_option maxRecDepth 10000
namespace Mine
open PySem PySem.W PyProof.Rows

section
variable {C : Cx} {fr : Shape} {n : Nat} {vals vals' : List Slot}

theorem Moves.trans {wr : List Addr} {S S' S'' : ASet} {s s' s'' : Shared} (x : Moves C wr S s S' s') (y : Moves C wr S' s' S'' s'') : Moves C wr S s S'' s'' :=
  Step.trans x (y.weaken fun b h => ⟨x.alive (.inl h) h.1, h.2⟩)
theorem Grow.moves {wr : List Addr} {S S' : ASet} {s s' : Shared} (x : Grow C S s S' s') : Moves C wr S s S' s' := x.weaken fun _ h => h.1

structure MapAt (S : ASet) (h : Heap) (f : Value) (z T i l : Addr) (k : Nat) (xs : Array Value) : Prop where
  mp : IsMap h z T f
  tp : IsOne h T (.ref i)
  it : h.IsListIter i l k
  ls : h.IsList l xs
  zi : z ≠ i
  Ti : T ≠ i
  li : l ≠ i
  nS : ¬ S i

theorem foreign_iter {h : Heap} {i l : Addr} {k : Nat} (x : h.IsListIter i l k) : Foreign h i := by
  obtain ⟨o, e, hc, hd⟩ := x
  exact foreign_fields e hd (by rw [hc]; decide) (by rw [hc]; decide)

theorem MapAt.moves {S S' : ASet} {s s' : Shared} {f : Value} {z T i l : Addr} {k k' : Nat} {xs : Array Value} (I : Inv C S s) (M : MapAt S s.heap f z T i l k xs) (m : Moves C [i] S s S' s') (hi : s'.heap.IsListIter i l k') (nS : ¬ S' i) : MapAt S' s'.heap f z T i l k' xs := by
  have ne : ∀ {b}, b ≠ i → b ∉ [i] := fun h q => h (List.mem_singleton.mp q)
  obtain ⟨o, e, r1, r2, r3⟩ := M.ls
  exact ⟨m.all _ _ (ne M.zi) ((foreign_fields M.mp rfl (show Value.type "map" ≠ _ by decide) (show Value.type "map" ≠ _ by decide)).notab I) M.mp, m.all _ _ (ne M.Ti) (I.notab_of M.tp fun vs q => by cases q) M.tp, hi, ⟨o, m.all _ _ (ne M.li) (I.notab_of e fun vs q => by rw [r3] at q; cases q) e, r1, r2, r3⟩, M.zi, M.Ti, M.li, nS⟩

theorem map_draw {A : Around} {E : Value → Shared → Prop} {S : ASet} {s : Shared} {z T i l : Addr} {k : Nat} {xs : Array Value} {x f : Value} {p r : VP} (I : Inv C S s) (hA : AOk 1 A) (M : MapAt S s.heap f z T i l k xs) (hx : xs[k]? = some x) (hint : FnG C 0 f [p] r) (hp : p.P S s.heap x) :
    wpAny C.M A (pyNext (.ref z)) (fun o s' => ∃ v S', o = some v ∧ Moves C [i] S s S' s' ∧ MapAt S' s'.heap f z T i l (k + 1) xs ∧ r.P S' s'.heap v) E s := by
  refine pyNext_map_item M.mp M.tp M.it M.ls hx M.zi fun A' e1 e2 e3 h' hi' hs' => ?_
  have m1 : Moves C [i] S s S { s with heap := h' } := moves_one (tk := s.toks) I (foreign_iter M.it) M.nS hs'.extBut
  have M1 := M.moves I m1 hi' M.nS
  have hA' : AOk 0 A' := ⟨e1.trans hA.handled, by have := hA.depth; lia, by have := hA.units; lia⟩
  refine wpAny_mono (hint A' S _ [x] m1.inv hA' ⟨p.keep (m1.keeps I) hp, trivial⟩) (fun v s' pq => ?_) fun _ _ z => z
  obtain ⟨S', g, hr⟩ := pq
  have nt := (foreign_iter hi').notab m1.inv
  have hi2 : s'.heap.IsListIter i l (k + 1) := by
    obtain ⟨o, e, r⟩ := hi'
    exact ⟨o, g.all _ _ nt e, r⟩
  exact ⟨v, S', rfl, m1.trans g.moves, M1.moves m1.inv g.moves hi2 (fun q => (g.new _ q).elim M.nS fun h => h (foreign_iter hi').live), hr⟩

/-- two names take what map gives -/
theorem Ex1.unpackMap {es : List Expr} {k : Nat} {mn : Str} {mp cp tpos pos : Pos} {fe e : Expr} {f : Value} {p1 p2 r1 r2 : VP} (hm : Ev C fr n vals (.Name mn mp) (vIs (.type "map"))) (hf : Ev C fr n vals fe (vIs f)) (he : Ev C fr n vals e (vLst [p1, p2])) (ha : EvArgs C fr n vals [fe, e] [vIs f, vLst [p1, p2]])
    (h1 : FnG C 0 f [p1] r1) (h2 : FnG C 0 f [p2] r2) (hn0 : 0 < n) (hn : Names fr vals es [r1, r2] vals') (hnd : fr.names.Nodup)
    (hs : ∀ env, swapsWithSole [.Tuple es k tpos] (.Call (.Name mn mp) [fe, e] [] cp) pos.line env = pure false := by intro _; rfl) (hw : ∀ env, swappedStores [.Tuple es k tpos] (.Call (.Name mn mp) [fe, e] [] cp) env = pure none := by intro _; rfl) :
    Ex1 C fr n vals (.Assign [.Tuple es k tpos] (.Call (.Name mn mp) [fe, e] [] cp) pos) (.next vals') := fun hb env A S s F => by
  refine Assign_Tuple ?_ (hs env) (hw env)
  refine wpAny_Call_NameR (Gives.seq (q := vNone) (hm hb env A S s F) fun v S₁ s₁ g₁ e₁ => ?_)
  cases (show v = .type "map" from e₁)
  refine callWith_g (first := []) (F.grow g₁) (KeepOk.type "map") ha fun S₂ s₂ vs g₂ hx => ?_
  obtain ⟨a, b, rfl, ha', hb'⟩ := hx.two
  cases (show a = f from ha')
  obtain ⟨l, xs, rfl, hSl, hl, hxs⟩ := hb'
  obtain ⟨x1, x2, rfl, hx1, hx2⟩ := hxs.two
  refine call_map hl.isList fun h' z1 z2 z3 hk => ?_
  have g₃ : Grow C S₂ s₂ S₂ { s₂ with heap := h' } := grow_of_kept (tk := s₂.toks) g₂.inv hk (fun _ h => h) fun _ h => .inl h
  have g := (g₁.trans g₂).trans g₃
  have F₃ := F.grow g
  have fresh : s₂.heap.get? s₂.heap.objs.size = none := Heap.get?_none_of_le (Nat.le_refl _)
  have nS : ¬ S₂ s₂.heap.objs.size := fun q => not_live fresh (g₂.inv.live _ q)
  have nb : ¬ hb s₂.heap.objs.size := fun q => not_live fresh ((g₁.trans g₂).alive (F.alive _ q))
  have M : MapAt S₂ h' f (s₂.heap.objs.size + 2) (s₂.heap.objs.size + 1) s₂.heap.objs.size l 0 #[x1, x2] :=
    ⟨z1, z2, z3, (hl.keeps hk).isList, Nat.ne_of_gt (Nat.lt_add_of_pos_right (by decide)), Nat.ne_of_gt (Nat.lt_succ_self _), (fun q => nS (q ▸ hSl)), nS⟩
  rw [arm_assign_Tuple]
  obtain ⟨n1, n2, n3⟩ := hn.run (C := C) (n := n) hnd
  refine wpAny_bind (wpAny_standAt ?_)
  unfold unpack
  rw [(n1 env).1, n2, (n1 env).2]
  refine wpAny_bind (wpAny_holding ?_)
  unfold unpackItems notIterableAtAll
  refine wpAny_bind (wpAny_bind (wpAny_specialOf (T := "map") ⟨_, z1, rfl⟩ mapIter.lookup (wpAny_pure ?_)))
  simp only [Bool.false_eq_true, if_false]
  refine wpAny_bind (wpAny_holding (pyIter_map z1 ?_))
  have hA1 : AOk 1 A := F.around.le hn0
  refine wpAny_bind (wpAny_holding (wpAny_bind (wpAny_mono (map_draw (E := F0) g₃.inv hA1 M rfl h1 (p1.keep (g₃.keeps g₂.inv) hx1)) (fun o s₄ ⟨v1, S₄, e4, m4, M4, r4⟩ => ?_) fun _ _ z => z)))
  subst e4
  refine wpAny_bind (wpAny_holding (wpAny_bind (wpAny_mono (map_draw (E := F0) m4.inv hA1 M4 rfl h2 (p2.mono m4.sub (p2.keep (m4.keeps g₃.inv) (p2.keep (g₃.keeps g₂.inv) hx2)))) (fun o s₅ ⟨v2, S₅, e5, m5, M5, r5⟩ => ?_) fun _ _ z => z)))
  subst e5
  refine wpAny_bind (wpAny_holding (wpAny_pure (wpAny_pure (wpAny_pure ?_))))
  simp only [List.length_cons, List.length_nil, Nat.lt_irrefl, if_false]
  refine wpAny_bind (wpAny_holding (pyNext_map_end F.around.handled M5.mp M5.tp M5.it M5.ls rfl fun h₆ hx₆ => ?_))
  simp only [Option.isSome_none, Bool.false_eq_true, if_false]
  refine wpAny_pure ?_
  have m6 : Moves C [s₂.heap.objs.size] S₅ s₅ S₅ { s₅ with heap := h₆ } := moves_one (tk := s₅.toks) m5.inv (foreign_iter M5.it) M5.nS hx₆
  have m := (m4.trans m5).trans m6
  have F₆ : FrameOk C fr n hb env A S₅ { s₅ with heap := h₆ } vals := (F₃.protect (wr := [s₂.heap.objs.size]) fun b hb' => by cases List.mem_singleton.mp hb'; exact foreign_iter z3).movesW (fun b hb' => by cases List.mem_singleton.mp hb'; exact foreign_iter z3) m fun b hb' => by cases List.mem_singleton.mp hb'; exact nb
  have r6 : All2 S₅ h₆ [v1, v2] [r1, r2] := ⟨r1.keep (m6.keeps m5.inv) (r1.mono m5.sub (r1.keep (m5.keeps m4.inv) r4)), r2.keep (m6.keeps m5.inv) r5, trivial⟩
  refine wpAny_mono (n3 hb env A S₅ _ _ F₆ r6) (fun _ s' ⟨S', st, F'⟩ => ⟨S', ((F.stepGrow g).trans (m.weaken fun b q => ⟨F₃.alive b q, fun q' => by cases List.mem_singleton.mp q'; exact nb q⟩)).trans st, F'⟩) fun _ _ z => z

end
end Mine

/-! LSet -/
set_option maxRecDepth 10000
namespace Mine
open PySem PySem.W PyProof.Rows

noncomputable def fnAt (K : Frag) (a : Addr) : FuncData := match K.lookup a with
  | some ⟨_, _, .func fd, _⟩ => fd
  | _ => default
noncomputable def bodyOf (fd : FuncData) : List Stmt := match fd.body with
  | .stmts b => b
  | _ => []

/-- what a law's ground is -/
structure LawG (C : Cx) (K : Frag) (mg : Str → Option Value) : Prop where
  X : K.In C.base
  lim : C.base.NoLimit
  g : C.base.Ns mainGlobals mg
  bm : ∃ bm ob, mg "__builtins__" = some (.ref bm) ∧ bm ≠ builtinsNs ∧ C.base.get? bm = some ob ∧ ob.cls = .type "module" ∧ ob.dict = some builtinsNs ∧ ob.data = .plain
  b : ∃ mb, C.base.Ns builtinsNs mb ∧ ∀ x : Str, x ≠ "__name__" → mb x = bootBuiltins x

section
variable {C : Cx} {K : Frag} {mg : Str → Option Value} (L : LawG C K mg)
include L

theorem LawG.fn {x : Str} {v : Value} (h : nsIn K mainGlobals x = some (some v)) : GlobIs C x v := ⟨mg, L.g, .inl (mg_of L.X L.g h)⟩
theorem LawG.bi {x : Str} {v : Value} (h : nsIn K mainGlobals x = some none) (hv : bootBuiltins x = some v) (hn : x ≠ "__name__") : GlobIs C x v :=
  let ⟨mb, h1, h2⟩ := L.b; ⟨mg, L.g, .inr ⟨mg_none_of L.X L.g h, mb, h1, (h2 x hn).trans hv⟩⟩

noncomputable def isPlainFn (K : Frag) (a : Addr) : Bool := match K.lookup a with
  | some ⟨_, _, .func fd, _⟩ => codeIn K fd.code fd.qualname && (match fd.body with | .stmts _ => true | _ => false) && fd.closure.isEmpty && fd.globals == mainGlobals && fd.builtins == builtinsNs && fd.scope.kind == .function && !fd.scope.isCoroutine && !fd.scope.isGenerator
  | _ => false
/-- the names of a function's frame -/
noncomputable def frameNames (sc : Scope) (xs names cells : List Str) : Bool :=
  names.take xs.length == xs && decide names.Nodup && xs.all (fun x => sc.names.lookup x == some .local || (sc.names.lookup x == some .cell && sc.names.any fun p => p.1 == x && p.2 == .cell)) && cells.all fun x => sc.names.any fun p => p.1 == x && p.2 == .cell

theorem LawG.keep {a : Addr} (h : isPlainFn K a = true) : KeepOk C (.ref a) := by
  unfold isPlainFn at h
  split at h
  · rename_i c d fd sl e; exact KeepOk.fn (L.X _ _ e) rfl
  · cases h

theorem LawG.def_ {a : Addr} {xs names cells : List Str} (h : isPlainFn K a = true) (hn : frameNames (fnAt K a).scope xs names cells = true)
    (hb : ∀ vs : List Value, vs.length = xs.length → bindArgs (fnAt K a) ⟨vs, []⟩ = pure (xs.zip vs)) : DefOk C a (fnAt K a) (bodyOf (fnAt K a)) xs ⟨(fnAt K a).scope, names, cells⟩ := by
  unfold isPlainFn at h
  split at h
  · rename_i c d fd sl e
    have ef : fnAt K a = fd := by unfold fnAt; rw [e]
    rw [ef] at hn hb ⊢
    simp only [Bool.and_eq_true, Bool.not_eq_true', beq_iff_eq] at h
    obtain ⟨⟨⟨⟨⟨⟨⟨h1, h2⟩, h3⟩, h4⟩, h5⟩, h6⟩, h7⟩, h8⟩ := h
    unfold frameNames at hn
    simp only [Bool.and_eq_true, beq_iff_eq, decide_eq_true_eq, List.all_eq_true, Bool.or_eq_true] at hn
    obtain ⟨⟨⟨n1, n2⟩, n3⟩, n4⟩ := hn
    refine ⟨⟨_, L.X _ _ e, rfl⟩, L.lim, codeRec_of L.X h1, ?_, by simpa using h3, h4, h5, h6, h7, h8, hb, rfl, n1, n2, fun x hx => n3 x hx, fun x hx => n4 x hx⟩
    unfold bodyOf
    split at h2
    · rename_i b hb'; rw [hb']
    · cases h2
  · cases h

theorem LawG.maker {t : TabSpec} (hm : t ∈ C.tabs) (hu : ∀ t' ∈ C.tabs, t'.P = t.P → t' = t) (hd : CodeHd C.base t.c t.P) : MakerOk C mg t := ⟨hm, hu, hd, L.g, L.bm⟩

end

theorem bind_1 {fd : FuncData} {x : Str} (h : ∀ a, bindArgs fd ⟨[a], []⟩ = pure [(x, a)]) : ∀ vs : List Value, vs.length = [x].length → bindArgs fd ⟨vs, []⟩ = pure ([x].zip vs)
  | [a], _ => h a
  | [], e => by simp at e
  | _ :: _ :: _, e => by simp at e
theorem bind_2 {fd : FuncData} {x y : Str} (h : ∀ a b, bindArgs fd ⟨[a, b], []⟩ = pure [(x, a), (y, b)]) : ∀ vs : List Value, vs.length = [x, y].length → bindArgs fd ⟨vs, []⟩ = pure ([x, y].zip vs)
  | [a, b], _ => h a b
  | [], e => by simp at e
  | [_], e => by simp at e
  | _ :: _ :: _ :: _, e => by simp at e
theorem bind_3 {fd : FuncData} {x y z : Str} (h : ∀ a b c, bindArgs fd ⟨[a, b, c], []⟩ = pure [(x, a), (y, b), (z, c)]) : ∀ vs : List Value, vs.length = [x, y, z].length → bindArgs fd ⟨vs, []⟩ = pure ([x, y, z].zip vs)
  | [a, b, c], _ => h a b c
  | [], e => by simp at e
  | [_], e => by simp at e
  | [_, _], e => by simp at e
  | _ :: _ :: _ :: _ :: _, e => by simp at e

end Mine

/-! LInd -/
set_option maxRecDepth 10000
namespace Mine
open PySem PySem.W PyProof.Rows

section
variable {C : Cx} {fr : Shape} {n : Nat} {vals vals' : List Slot}

theorem Ev.conv {e : Expr} {p q : VP} (h : Ev C fr n vals e p) (hp : p = q) : Ev C fr n vals e q := hp ▸ h
theorem EvB.conv {e : Expr} {p q : Bool} (h : EvB C fr n vals e p) (hp : p = q) : EvB C fr n vals e q := hp ▸ h

/-- a loop told by a run of states -/
theorem Turns.run {α σ : Type} {tgt : Expr} {body : List Stmt} (kind : α → VP) (slots : σ → List Slot) (slots1 : σ → α → List Slot) (inv : σ → List α → Prop) (out : σ → List α → Out)
    (hasg : ∀ st c, Asg C fr n (slots st) tgt (kind c) (slots1 st c)) (hnil : ∀ st, inv st [] → out st [] = .next (slots st))
    (hcons : ∀ st c r, inv st (c :: r) → (∃ st', Ex C fr n (slots1 st c) body (.next (slots st')) ∧ inv st' r ∧ out st (c :: r) = out st' r) ∨ (∃ v, Ex C fr n (slots1 st c) body (.brk v) ∧ out st (c :: r) = .next v) ∨
      ∃ q, Ex C fr n (slots1 st c) body (.ret q) ∧ out st (c :: r) = .ret q) : ∀ l st, inv st l → Turns C fr n tgt body (slots st) (l.map kind) (out st l)
  | [], st, h => by rw [hnil st h]; exact .nil
  | c :: r, st, h => by
    rcases hcons st c r h with ⟨st', h1, h2, h3⟩ | ⟨v, h1, h3⟩ | ⟨q, h1, h3⟩
    · rw [h3]; exact .next (hasg st c) h1 (Turns.run kind slots slots1 inv out hasg hnil hcons r st' h2)
    · rw [h3]; exact .brk (hasg st c) h1
    · rw [h3]; exact .ret (hasg st c) h1

/-- a loop without a break -/
theorem Turns.fold {α σ : Type} {tgt : Expr} {body : List Stmt} (kind : α → VP) (slots : σ → List Slot) (slots1 : σ → α → List Slot) (inv : σ → List α → Prop) (step : σ → α → σ)
    (hasg : ∀ st c, Asg C fr n (slots st) tgt (kind c) (slots1 st c)) (hcons : ∀ st c r, inv st (c :: r) → Ex C fr n (slots1 st c) body (.next (slots (step st c))) ∧ inv (step st c) r) (l : List α) (st : σ) (h : inv st l) :
    Turns C fr n tgt body (slots st) (l.map kind) (.next (slots (l.foldl step st))) :=
  Turns.run kind slots slots1 inv (fun st l => .next (slots (l.foldl step st))) hasg (fun _ _ => rfl) (fun st c r h => .inl ⟨_, (hcons st c r h).1, (hcons st c r h).2, rfl⟩) l st h

/-- the frame of a comprehension -/
noncomputable abbrev compFr (fr : Shape) (scope : Scope) (own : List Str) (idx : List Nat) : Shape := ⟨relabelS scope fr.scope, own ++ idx.filterMap (fr.names[·]?), []⟩
theorem EvL.compOf {elt tgt iter : Expr} {ifs : List Expr} {scope : Scope} {pos : Pos} {p : VP} {items l : List VP} (own : List Str) (idx : List Nat) (qs : List VP) (K : compShape fr scope (compFr fr scope own idx) own idx = true) (hq : Idx vals idx qs)
    (hit : Ev C fr n vals iter p) (hI : IterG C p items) (hT : CTurns C (compFr fr scope own idx) n elt tgt ifs (compVals own qs) items l) (hsz : l.length ≤ sizeLine) (hs : ∀ env x, foldedSetIterable iter env x = pure x := by intro _ _; rfl) :
    EvL C fr n vals (.ListComp elt [⟨tgt, iter, ifs, 0⟩] scope pos) l := EvL.comp K hq hit hI hT hsz hs
theorem Ex1.assignComp {x : Str} {pos' spos : Pos} {elt tgt iter : Expr} {ifs : List Expr} {scope : Scope} {pos : Pos} {p : VP} {items l : List VP} (i : Nat) (own : List Str) (idx : List Nat) (qs : List VP) (hi : fr.names[i]? = some x) (hnd : fr.names.Nodup) (hc : canStore fr x = true)
    (K : compShape fr scope (compFr fr scope own idx) own idx = true) (hq : Idx vals idx qs) (hit : Ev C fr n vals iter p) (hI : IterG C p items) (hT : CTurns C (compFr fr scope own idx) n elt tgt ifs (compVals own qs) items l) (hsz : l.length ≤ sizeLine) (hs : ∀ env x, foldedSetIterable iter env x = pure x := by intro _ _; rfl) :
    Ex1 C fr n vals (.Assign [.Name x pos'] (.ListComp elt [⟨tgt, iter, ifs, 0⟩] scope pos) spos) (.next (vals.set i (.own l))) := Ex1.assignCompOwn i hi hnd hc K hq hit hI hT hsz hs

/-- a comprehension's turns -/
theorem CTurns.sel {α : Type} {elt tgt : Expr} {ifs : List Expr} (kind f : α → VP) (slots : Option α → List Slot) (pr : α → Bool) (hasg : ∀ o a, Asg C fr n (slots o) tgt (kind a) (slots (some a))) :
    ∀ (l : List α) (o : Option α), (∀ a ∈ l, EvIfs C fr n (slots (some a)) ifs (pr a)) → (∀ a ∈ l, pr a = true → Ev C fr n (slots (some a)) elt (f a)) → CTurns C fr n elt tgt ifs (slots o) (l.map kind) ((l.filter pr).map f)
  | [], _, _, _ => .nil
  | a :: r, o, h1, h2 => by
    have ih := CTurns.sel kind f slots pr hasg r (some a) (fun b hb => h1 b (.tail _ hb)) fun b hb => h2 b (.tail _ hb)
    have q := h1 a (.head _)
    cases e : pr a with
    | true => rw [e] at q; rw [List.filter_cons_of_pos e]; exact .keep (hasg o a) q (h2 a (.head _) e) ih
    | false => rw [e] at q; rw [List.filter_cons_of_neg (by rw [e]; decide)]; exact .skip (hasg o a) q ih
theorem CTurns.map {α : Type} {elt tgt : Expr} (kind f : α → VP) (slots : Option α → List Slot) (hasg : ∀ o a, Asg C fr n (slots o) tgt (kind a) (slots (some a))) (l : List α) (o : Option α) (h2 : ∀ a ∈ l, Ev C fr n (slots (some a)) elt (f a)) :
    CTurns C fr n elt tgt [] (slots o) (l.map kind) (l.map f) := by
  have := CTurns.sel (ifs := []) kind f slots (fun _ => true) hasg l o (fun _ _ => EvIfs.none) fun a ha _ => h2 a ha
  rwa [List.filter_eq_self.mpr fun _ _ => rfl] at this

end
end Mine

/-! LWs -/
set_option maxRecDepth 10000
namespace Mine
open PySem PySem.W PyProof.Rows

/-! what Whitespace reads from a row -/
structure WsS where
  count : List Int
  b : Int
  n : Int
  nt : Int


noncomputable def bump0 (count : List Int) (b : Int) : List Int := if b ≥ count.length then count ++ List.replicate (b - count.length + 1).toNat 0 else count
noncomputable def bump (count : List Int) (b : Int) : List Int := (bump0 count b).set b.toNat ((bump0 count b).getD b.toNat 0 + 1)

noncomputable def wsScan : List Nat → WsS → WsS
  | [], st => st
  | c :: r, st => if c = 32 then wsScan r ⟨st.count, st.b + 1, st.n + 1, st.nt⟩ else if c = 9 then wsScan r ⟨bump st.count st.b, 0, st.n + 1, st.nt + 1⟩ else st
/-- the last sign read -/
noncomputable def wsCh : List Nat → Slot → Slot
  | [], s => s
  | c :: r, _ => if c = 32 then wsCh r (.val (vS [c])) else if c = 9 then wsCh r (.val (vS [c])) else .val (vS [c])
noncomputable def wsOf (l : List Nat) : WsS := wsScan l ⟨[], 0, 0, 0⟩

noncomputable def normP (w : WsS) : VP := vTup [vTup (w.count.map vInt), vInt w.b]
noncomputable def wsAttrs (l : List Nat) (w : WsS) : List (Str × VP) := [("raw", vS l), ("n", vInt w.n), ("nt", vInt w.nt), ("norm", normP w), ("is_simple", vBool (decide ((w.count.length : Int) ≤ 1)))]

theorem bump0_length {count : List Int} {b : Int} (hb : 0 ≤ b) : b.toNat < (bump0 count b).length ∧ (bump0 count b).length ≤ max count.length (b.toNat + 1) := by
  obtain ⟨m, rfl⟩ := Int.eq_ofNat_of_zero_le hb
  unfold bump0
  split
  · rename_i h
    have h : count.length ≤ m := Int.ofNat_le.mp h
    have e : (((m : Int) - count.length + 1).toNat) = m - count.length + 1 := by rw [← Int.ofNat_sub h]; rfl
    rw [List.length_append, List.length_replicate, e, ← Nat.add_assoc, Nat.add_sub_cancel' h]
    exact ⟨Nat.lt_succ_self m, Nat.le_max_right _ _⟩
  · rename_i h
    exact ⟨Int.ofNat_lt.mp (Int.not_le.mp h), Nat.le_max_left _ _⟩
theorem bump_length {count : List Int} {b : Int} (hb : 0 ≤ b) : (bump count b).length ≤ max count.length (b.toNat + 1) := by
  unfold bump; rw [List.length_set]; exact (bump0_length hb).2

theorem wsScan_length (N : Nat) : ∀ (l : List Nat) (st : WsS), 0 ≤ st.b → st.count.length ≤ N → st.b.toNat + l.length + 1 ≤ N → (wsScan l st).count.length ≤ N
  | [], _, _, h2, _ => h2
  | c :: r, st, h, h2, h3 => by
    unfold wsScan
    split
    · refine wsScan_length N r ⟨st.count, st.b + 1, st.n + 1, st.nt⟩ (Int.add_nonneg h (by decide)) h2 ?_
      show (st.b + 1).toNat + r.length + 1 ≤ N
      rw [Int.toNat_add h (by decide), show (1 : Int).toNat = 1 from rfl, Nat.add_right_comm st.b.toNat]
      exact h3
    · split
      · refine wsScan_length N r ⟨bump st.count st.b, 0, st.n + 1, st.nt + 1⟩ (Int.le_refl _) (Nat.le_trans (bump_length h) (Nat.max_le.mpr ⟨h2, Nat.le_trans (Nat.succ_le_succ (Nat.le_add_right _ _)) h3⟩)) ?_
        show 0 + r.length + 1 ≤ N
        rw [Nat.zero_add]
        exact Nat.le_trans (Nat.le_add_left _ _) (Nat.le_of_succ_le h3)
      · exact h2
theorem wsOf_length {l : List Nat} (h : l.length ≤ 1000) : (wsOf l).count.length ≤ 1001 :=
  wsScan_length 1001 l ⟨[], 0, 0, 0⟩ (by decide) (Nat.zero_le _) (show 0 + l.length + 1 ≤ 1001 by rw [Nat.zero_add]; exact Nat.succ_le_succ h)

noncomputable def runOf (w : WsS) : Int := max ((w.count.length : Int) - 1) w.b
noncomputable def levelSum (w : WsS) (ts : Int) : Int := (rangeL ts w.count.length 1).foldl (fun il i => il + i / ts * w.count.getD i.toNat 0) 0
noncomputable def levelOf (w : WsS) (ts : Int) : Int := w.b + ts * (levelSum w ts + w.nt)
noncomputable def equalB (w v : WsS) : Bool := PyData.eqv (.tuple [.tuple (w.count.map .int), .int w.b]) (.tuple [.tuple (v.count.map .int), .int v.b])
noncomputable def lessB (w v : WsS) : Bool :=
  if w.n ≥ v.n then false
  else if (decide ((w.count.length : Int) ≤ 1) && decide ((v.count.length : Int) ≤ 1)) = true then decide (w.nt ≤ v.nt)
  else (rangeL 2 (max (runOf w) (runOf v) + 1 + 1) 1).all fun ts => !decide (levelOf w ts ≥ levelOf v ts)

/-- a reading within bounds -/
noncomputable def WsS.small (w : WsS) : Prop := w.count.length ≤ 1001 ∧ 0 ≤ w.b ∧ w.b ≤ 1001

theorem WsS.small.run {w : WsS} (h : w.small) : 0 ≤ runOf w ∧ runOf w ≤ 1001 :=
  ⟨Int.le_trans h.2.1 (Int.le_max_right _ _), Int.max_le.mpr ⟨Int.le_trans (Int.sub_le_self _ (by decide)) (Int.ofNat_le.mpr h.1), h.2.2⟩⟩
theorem wsScan_b : ∀ (l : List Nat) (st : WsS), 0 ≤ st.b → 0 ≤ (wsScan l st).b ∧ (wsScan l st).b ≤ st.b + l.length
  | [], st, _ => by simp only [wsScan, List.length_nil]; lia
  | c :: r, st, h => by
    unfold wsScan
    split
    · have := wsScan_b r ⟨st.count, st.b + 1, st.n + 1, st.nt⟩ (by dsimp only; lia)
      dsimp only at this; simp only [List.length_cons]; lia
    · split
      · have := wsScan_b r ⟨bump st.count st.b, 0, st.n + 1, st.nt + 1⟩ (by dsimp only; lia)
        dsimp only at this; simp only [List.length_cons]; lia
      · simp only [List.length_cons]; lia
theorem wsOf_small {l : List Nat} (h : l.length ≤ 1000) : (wsOf l).small := by
  have q := wsScan_b l ⟨[], 0, 0, 0⟩ (by decide)
  dsimp only at q
  refine ⟨wsOf_length h, q.1, ?_⟩
  unfold wsOf; lia

theorem reads_norm (w : WsS) : (normP w).Reads (.tuple [.tuple (w.count.map .int), .int w.b]) := by
  refine reads_tup ⟨reads_tup ?_, reads_int _, trivial⟩
  exact readsL_map vInt .int (fun i => reads_int i) w.count
theorem shaped_norm (w : WsS) : SeqAt.shaped (.tuple [.tuple (w.count.map .int), .int w.b]) = true := by
  have h1 := canLay_ints w.count
  have h2 := depth_ints w.count
  refine Bool.and_eq_true_iff.mpr ⟨?_, decide_eq_true ?_⟩
  · simp only [PyData.canLay0, PyData.canLayAll0, h1, Bool.and_true]
  · simp only [PyData.depth, PyData.depthAll]; lia

noncomputable def clsTxt (K : Frag) (Cl : Addr) (name : Str) (l : List Nat) : Bool := match findCls K (.ref Cl) (.type "type") name with
  | some (.val (.str s _)) => s == ⟨l.toArray⟩
  | _ => false

section
variable {C : Cx} {fr : Shape} {n : Nat} {vals vals' : List Slot} {K : Frag}

theorem Ev.clsTxt {e : Expr} {name : Str} {pos : Pos} {Cl : Addr} {l : List Nat} (h : Ev C fr n vals e (vIs (.ref Cl))) (X : K.In C.base) (hr : readsIn K Cl (.type "type") = true) (hf : clsTxt K Cl name l = true)
    (hbase : ∀ env, attributeBase e name env (eval e env) = eval e env := by intro _; rfl) : Ev C fr n vals (.Attribute e name pos) (vS l) := by
  unfold Mine.clsTxt at hf
  split at hf
  · rename_i s t hq
    have := eq_of_beq hf
    subst this
    exact Ev.clsAttr h X hr hq rfl (fun _ _ => ⟨t, rfl⟩) hbase
  · cases hf

theorem Ex1.conv {st : Stmt} {o o' : Out} (h : Ex1 C fr n vals st o) (e : o = o') : Ex1 C fr n vals st o' := e ▸ h
theorem Ex.conv {st : List Stmt} {o o' : Out} (h : Ex C fr n vals st o) (e : o = o') : Ex C fr n vals st o' := e ▸ h

theorem iter_text {l : List Nat} : IterG C (vS l) (l.map fun c => vS [c]) := IterG.str (x := ⟨l.toArray⟩)

end
end Mine

/-! LRev -/
set_option maxRecDepth 10000
namespace Mine
open PySem PySem.W PyProof.Rows

/-! what search_reverse tells -/
noncomputable def srevGo (nx : Int → Option (Int × Int)) (col : Int) : Nat → Option (Int × Int) → Int × Int → Option (Int × Int)
  | 0, f, _ => f
  | k + 1, f, m => if m.1 < col ∧ m.2 ≤ col then (match nx (if m.1 = m.2 then m.2 + 1 else m.2) with
      | none => some m
      | some m' => srevGo nx col k (some m) m') else f
noncomputable def srev (nx : Int → Option (Int × Int)) (col : Int) : Option (Int × Int) := match nx 0 with
  | none => none
  | some m => srevGo nx col (2 * col + 5).toNat none m

/-- a search that goes on -/
noncomputable def Goes (nx : Int → Option (Int × Int)) : Prop := ∀ b i j, nx b = some (i, j) → b ≤ j ∧ (i ≠ j → b < j)

/-- the search of laws 1 and 2: the first span that ends behind the place -/
noncomputable def nxS : List (Int × Int) → Int → Option (Int × Int)
  | [], _ => none
  | s :: r, b => if b < s.2 then some (max s.1 b, s.2) else nxS r b
theorem nxS_goes (sp : List (Int × Int)) : Goes (nxS sp) := by
  intro b i j h
  induction sp with
  | nil => cases h
  | cons s r ih =>
    unfold nxS at h
    split at h
    · cases h; lia
    · exact ih h

noncomputable def resP (hit : Int → Int → VP) : Option (Int × Int) → VP
  | none => vNone
  | some m => hit m.1 m.2

section
variable {C : Cx} {n : Nat}
theorem FnG.le {k : Nat} {f : Value} {ps : List VP} {r : VP} (h : FnG C k f ps r) (hk : k ≤ n) : FnG C n f ps r := fun A S s vs I hA hx => h A S s vs I (hA.le hk) hx
theorem Wh.run {σ : Type} {fr : Shape} {test : Expr} {body : List Stmt} (slots : σ → List Slot) (inv : σ → Nat → Prop) (Post : List Slot → Prop)
    (h : ∀ st k, inv st k → (EvB C fr n (slots st) test false ∧ Post (slots st)) ∨ (∃ st' k', k' < k ∧ EvB C fr n (slots st) test true ∧ Ex C fr n (slots st) body (.next (slots st')) ∧ inv st' k') ∨ ∃ v, EvB C fr n (slots st) test true ∧ Ex C fr n (slots st) body (.brk v) ∧ Post v) :
    ∀ (k : Nat) (st : σ), inv st k → ∃ k' v, Wh C fr n test body k' (slots st) (.next v) ∧ Post v := by
  intro k
  induction k using Nat.strongRecOn with
  | ind k ih =>
    intro st hi
    rcases h st k hi with ⟨h1, h2⟩ | ⟨st', k', hk, h1, h2, h3⟩ | ⟨v, h1, h2, h3⟩
    · exact ⟨0, _, .stop h1, h2⟩
    · obtain ⟨k2, v, h4, h5⟩ := ih k' hk st' h3
      exact ⟨k2 + 1, v, .next h1 h2 h4, h5⟩
    · exact ⟨0, v, .brk h1 h2, h3⟩

theorem Ex.while_run {σ : Type} {fr : Shape} {test : Expr} {body rest : List Stmt} {pos : Pos} {o : Out} (slots : σ → List Slot) (inv : σ → Nat → Prop) (Post : List Slot → Prop) (k : Nat) (st : σ) (hi : inv st k) (hr : ∀ v, Post v → Ex C fr n v rest o)
    (h : ∀ st k, inv st k → (EvB C fr n (slots st) test false ∧ Post (slots st)) ∨ (∃ st' k', k' < k ∧ EvB C fr n (slots st) test true ∧ Ex C fr n (slots st) body (.next (slots st')) ∧ inv st' k') ∨ ∃ v, EvB C fr n (slots st) test true ∧ Ex C fr n (slots st) body (.brk v) ∧ Post v) :
    Ex C fr n (slots st) (.While test body [] pos :: rest) o := by
  obtain ⟨k', v, hW, hv⟩ := Wh.run slots inv Post h k st hi
  exact Ex.cons (Ex1.while_ hW) (hr v hv)

/-- a hit that tells its span -/
structure HitOk (C : Cx) (n : Nat) (hit : Int → Int → VP) : Prop where
  is : ∀ i j, ∃ sp : VP, hit i j = vFun [("span", sp)] ∧ sp.IsFn ∧ CallG C n sp [] (vTup [vInt i, vInt j])

theorem HitOk.tru {hit : Int → Int → VP} (H : HitOk C n hit) (i j : Int) : TruG C (hit i j) true := by
  obtain ⟨sp, e, _⟩ := H.is i j; rw [e]; exact TruG.fun_
theorem HitOk.notNone {hit : Int → Int → VP} (H : HitOk C n hit) (i j : Int) : (hit i j).NotNone := by
  obtain ⟨sp, e, _⟩ := H.is i j; rw [e]; exact notNone_fun

theorem HitOk.span {hit : Int → Int → VP} (H : HitOk C n hit) {fr : Shape} {vals : List Slot} {e : Expr} {ap cp : Pos} {i j : Int} (h : Ev C fr n vals e (hit i j)) (hb : ∀ env, attributeBase e "span" env (eval e env) = eval e env) (hl : (ap.endLine == cp.line) = true) :
    Ev C fr n vals (.Call (.Attribute e "span" ap) [] [] cp) (vTup [vInt i, vInt j]) := by
  obtain ⟨sp, e1, e2, e3⟩ := H.is i j
  rw [e1] at h
  exact Ev.callAttr h rfl e2 .nil fnSpan e3 hb (by decide) hl
end
end Mine

/-! LProg -/
set_option maxRecDepth 10000
namespace Mine
open PySem PySem.W PyProof.Rows

noncomputable def cloB (scope : Scope) (xs locs cn : List Str) : Bool :=
  scope.kind == .function && !scope.isCoroutine && !scope.isGenerator && scope.names.all (fun x => x.2 != .cell) && xs.all (fun x => scope.names.lookup x == some .local) && cn.all (fun x => scope.names.lookup x == some .free) && decide (xs ++ (locs ++ cn)).Nodup
theorem CloShape.of {scope : Scope} {xs locs cn : List Str} (h : cloB scope xs locs cn = true) : CloShape scope xs locs cn := by
  unfold cloB at h
  simp only [Bool.and_eq_true, Bool.not_eq_true', beq_iff_eq, List.all_eq_true, bne_iff_ne, decide_eq_true_eq] at h
  obtain ⟨⟨⟨⟨⟨⟨h1, h2⟩, h3⟩, h4⟩, h5⟩, h6⟩, h7⟩ := h
  exact ⟨h1, h2, h3, h4, h5, h6, h7⟩

noncomputable def lamOf : Expr → Arguments × Expr × Scope × Pos
  | .Lambda p e s q => (p, e, s, q)
  | _ => default
noncomputable def valOf : Stmt → Expr
  | .Assign _ e _ => e
  | _ => default
noncomputable def stAt (b : List Stmt) (i : Nat) : Stmt := (b[i]?).getD default
noncomputable def defOf : Stmt → Arguments × List Stmt × Scope × Pos
  | .FunctionDef _ a b _ _ _ s _ _ p => (a, b, s, p)
  | _ => default

noncomputable abbrev innerQ (K : Frag) (a : Addr) (x : Str) : Str := (fnAt K a).qualname ++ ".<locals>." ++ x
noncomputable abbrev lamAt (K : Frag) (a : Addr) (i : Nat) : Arguments × Expr × Scope × Pos := lamOf (valOf (stAt (bodyOf (fnAt K a)) i))
noncomputable abbrev defAt (K : Frag) (a : Addr) (i : Nat) : Arguments × List Stmt × Scope × Pos := defOf (stAt (bodyOf (fnAt K a)) i)

/-- the tables of the two makers -/
noncomputable def hitTab (K : Frag) (a c P : Addr) : TabSpec := ⟨c, P, [((lamAt K a 0).2.2.2, innerQ K a "<lambda>"), ((lamAt K a 1).2.2.2, innerQ K a "<lambda>")]⟩
noncomputable def progTab (K : Frag) (a c P : Addr) : TabSpec := ⟨c, P, [((defAt K a 0).2.2.2, innerQ K a "search"), ((lamAt K a 1).2.2.2, innerQ K a "<lambda>")]⟩

noncomputable def spanVP (K : Frag) (a : Addr) (cells : List (Str × VP)) : VP := vClo "<lambda>" (innerQ K a "<lambda>") (lamAt K a 1).1 (.expr (lamAt K a 1).2.1) (lamAt K a 1).2.2.1 none cells
noncomputable def hitVP (K : Frag) (a : Addr) (cells : List (Str × VP)) : VP := vFun [("span", spanVP K a cells)]
noncomputable def searchVP (K : Frag) (a : Addr) (cells : List (Str × VP)) : VP := vClo "search" (innerQ K a "search") (defAt K a 0).1 (.stmts (defAt K a 0).2.1) (defAt K a 0).2.2.1 (some [vInt 0]) cells
noncomputable def progVP (K : Frag) (a : Addr) (cells : List (Str × VP)) : VP := vFun [("search", searchVP K a cells)]

end Mine

/-! LCol -/
set_option maxRecDepth 10000
namespace Mine
open PySem PySem.W PyProof.Rows

noncomputable def colStep (size c : Int) (x : Nat) : Int := if x = 32 then c + 1 else c - c % size + size
noncomputable def colWalk (size : Int) (l : List Nat) : Int := l.foldl (colStep size) 0
noncomputable def columnsOf (l : List Nat) : List Int := (rangeL 1 11 1).map fun size => colWalk size l

theorem eqv_int (a b : Int) : PyData.eqv (.int a) (.int b) = decide (a = b) := by
  by_cases h : a = b
  · subst h; simp [PyData.eqv]
  · simp [PyData.eqv, h]
theorem eqvAll_ints : ∀ (a b : List Int), PyData.eqvAll (a.map .int) (b.map .int) = decide (a = b)
  | [], [] => rfl
  | [], _ :: _ => rfl
  | _ :: _, [] => rfl
  | x :: a, y :: b => by
    show (PyData.eqv (.int x) (.int y) && PyData.eqvAll (a.map .int) (b.map .int)) = _
    rw [eqv_int, eqvAll_ints a b, ← Bool.decide_and]
    congr 1; simp
theorem eqv_ints (a b : List Int) : PyData.eqv (.list (a.map .int)) (.list (b.map .int)) = decide (a = b) := eqvAll_ints a b
theorem reads_ints (a : List Int) : (vLst (a.map vInt)).Reads (.list (a.map .int)) := reads_lst (readsL_map vInt .int (fun i => reads_int i) a)
theorem shaped_ints (a : List Int) : SeqAt.shaped (.list (a.map .int)) = true := by
  have h1 := canLay_ints a
  have h2 := depth_ints a
  refine Bool.and_eq_true_iff.mpr ⟨?_, decide_eq_true ?_⟩
  · simp only [PyData.canLay0, h1]
  · simp only [PyData.depth]; lia
theorem CmpG.eqInts {C : Cx} {a b : List Int} : CmpG C .Eq (vLst (a.map vInt)) (vLst (b.map vInt)) (decide (a = b)) := by
  rw [← eqv_ints]; exact CmpG.eqD (reads_ints a) (reads_ints b) (shaped_ints a) (shaped_ints b)

theorem FnG.conv {C : Cx} {n : Nat} {f : Value} {ps : List VP} {r r' : VP} (h : FnG C n f ps r) (e : r = r') : FnG C n f ps r' := e ▸ h

noncomputable def fartherB (a b : List Int) (e : Bool) : Bool := (e && decide (a = b)) || decide (((rangeL 0 a.length 1).filter fun i => decide (a.getD i.toNat 0 ≥ b.getD i.toNat 0)) = [])
noncomputable def mayGo (w v : WsS) (e : Bool) : Bool := if e then lessB w v || equalB w v else lessB w v && !equalB w v
end Mine

namespace Mine
open PySem PySem.W PyProof.Rows
noncomputable def colAt (cols : List (List Int)) (i : Int) : List Int := cols.getD i.toNat []
noncomputable def innerGo (cols : List (List Int)) (e : Bool) (i : Int) : List Int → List Int → List Int
  | [], g => g
  | k :: r, g => if fartherB (colAt cols i) (colAt cols k) e = true then innerGo cols e i r (g ++ [k]) else g
noncomputable def innerK (cols : List (List Int)) (e : Bool) (i : Int) : List Int → Slot → Slot
  | [], s => s
  | k :: r, _ => if fartherB (colAt cols i) (colAt cols k) e = true then innerK cols e i r (.val (vInt k)) else .val (vInt k)
noncomputable def goneOf (cols : List (List Int)) (e : Bool) (N : Int) : List Int := (rangeL 0 N 1).foldl (fun g i => innerGo cols e i (rangeL (i + 1) N 1) g) []
noncomputable def leftOf (rows : List (List Nat)) (cols : List (List Int)) (e : Bool) : List (List Nat) :=
  ((rangeL 0 rows.length 1).filter fun j => decide (j ∉ goneOf cols e rows.length)).map fun j => rows.getD j.toNat []

theorem innerGo_length (cols : List (List Int)) (e : Bool) (i : Int) : ∀ (ks g : List Int), (innerGo cols e i ks g).length ≤ g.length + ks.length
  | [], g => by simp [innerGo]
  | k :: r, g => by
    unfold innerGo
    split
    · have := innerGo_length cols e i r (g ++ [k])
      simp only [List.length_append, List.length_cons, List.length_nil] at this ⊢; lia
    · simp only [List.length_cons]; lia
end Mine

/-! LForget -/
set_option maxRecDepth 10000
namespace Mine
open PySem PySem.W PyProof.Rows

/-- some slots are no longer told -/
noncomputable def Forget : List Slot → List Slot → Prop
  | [], [] => True
  | a :: r, b :: q => (b = a ∨ b = .un) ∧ Forget r q
  | _, _ => False
theorem Forget.get : ∀ {a b : List Slot}, Forget a b → a.length = b.length ∧ ∀ (i : Nat) (t : Slot), b[i]? = some t → t = .un ∨ a[i]? = some t
  | [], [], _ => ⟨rfl, fun i t h => by simp at h⟩
  | x :: r, y :: q, ⟨h, k⟩ => ⟨by simp [k.get.1], fun i t e => by
      cases i with
      | zero => simp at e; subst e; rcases h with h | h
                · exact .inr (by simp [h])
                · exact .inl h
      | succ i => simp at e; simpa using k.get.2 i t e⟩
  | [], _ :: _, h => h.elim
  | _ :: _, [], h => h.elim

section
variable {C : Cx} {fr : Shape} {n : Nat} {vals vals' : List Slot}
theorem FrameOk.forget {hb env A S s} (F : FrameOk C fr n hb env A S s vals) (h : Forget vals vals') : FrameOk C fr n hb env A S s vals' := by
  obtain ⟨f, h1, h2, h3⟩ := F.slots
  obtain ⟨k1, k2⟩ := h.get
  refine { F with slots := ⟨f, h1.trans k1, fun i x t hx ht => ?_, fun i j l l' hi hj e => ?_⟩ }
  · rcases k2 i t ht with rfl | q
    · trivial
    · exact h2 i x t hx q
  · rcases k2 i _ hi with q | q
    · cases q
    · rcases k2 j _ hj with q' | q'
      · cases q'
      · exact h3 i j l l' q q' e
theorem Ex.forgetOut {ss : List Stmt} {v v' : List Slot} (h : Ex C fr n vals ss (.next v)) (hf : Forget v v') : Ex C fr n vals ss (.next v') := fun hb env A S s F =>
  wpAny_mono (h hb env A S s F) (fun f s' ⟨S', st, y⟩ => ⟨S', st, by cases f <;> first | exact y.elim | exact FrameOk.forget y hf⟩) fun _ _ z => z
theorem Ev.neg {x : Expr} {pos : Pos} {i : Int} (h : Ev C fr n vals x (vInt i)) : Ev C fr n vals (.UnaryOp .USub x pos) (vInt (-i)) := fun hb env A S s F =>
  wpAny_UnaryOp (Gives.seq (q := vInt (-i)) (h hb env A S s F) fun v S₁ s₁ g x => by
    obtain ⟨t, rfl⟩ := int_of x
    exact PySem.P.neg_int ⟨S₁, g.trans (Grow.tok g.inv _), _, rfl⟩)
end
end Mine

/-! LFold -/
set_option maxRecDepth 10000
namespace Mine
open PySem PySem.W PyProof.Rows

noncomputable def rowAt (rows : List (List Nat)) (k : Int) : List Nat := rows.getD k.toNat []
noncomputable def beginAt (rows : List (List Nat)) (k : Int) : Int := (joinOn 10 (cut rows none (some k) ++ [[]])).length
noncomputable def spansOf (rows : List (List Nat)) (e : Bool) : List (Int × Int) :=
  ((rangeL 1 rows.length 1).filter fun k => mayGo (wsOf (rowAt rows (k - 1))) (wsOf (rowAt rows k)) e).map fun k => (beginAt rows k, beginAt rows k + (rowAt rows k).length)
noncomputable def lineOf (rows : List (List Nat)) (move : Int) : Int := move % rows.length + 1
noncomputable def colOf (rows : List (List Nat)) (move : Int) : Int := move / rows.length % ((rowAt rows (lineOf rows move - 1)).length + 1)
noncomputable def placeOf (rows : List (List Nat)) (move : Int) : Int := beginAt rows (lineOf rows move - 1) + colOf rows move
noncomputable def aheadOf (sp : List (Int × Int)) (place : Int) : List (Int × Int) := sp.filter fun s => decide (s.2 ≤ place)
noncomputable def goneAt (rows : List (List Nat)) (b : Int) : Int := ((splitOn 10 (cut (joinOn 10 rows) none (some b))).length : Int) - 1
noncomputable def without (rows : List (List Nat)) (g : Int) : List (List Nat) := cut rows none (some g) ++ cut rows (some (g + 1)) none

inductive FoldR where
  | done (rows : List (List Nat))
  | bad
  | next (rows : List (List Nat))

noncomputable def foldTake (rows : List (List Nat)) (f : Option (Int × Int)) (a : List (Int × Int)) : FoldR := match f with
  | none => .bad
  | some m => if [m] ≠ cut a (some (-1)) none then .bad else .next (without rows (goneAt rows m.1))
noncomputable def foldStep (rows : List (List Nat)) (move : Int) (e : Bool) : FoldR :=
  if srev (nxS (spansOf rows e)) (placeOf rows move) = none ∧ aheadOf (spansOf rows e) (placeOf rows move) = [] then
    (if srev (nxS (spansOf rows e)) (joinOn 10 rows).length = none ∧ spansOf rows e = [] then .done rows
     else foldTake rows (srev (nxS (spansOf rows e)) (joinOn 10 rows).length) (spansOf rows e))
  else foldTake rows (srev (nxS (spansOf rows e)) (placeOf rows move)) (aheadOf (spansOf rows e) (placeOf rows move))
noncomputable def foldRun (e : Bool) : List (List Nat) → List Int → Option (List (List Nat)) ⊕ List (List Nat)
  | rows, [] => .inr rows
  | rows, m :: ms => match foldStep rows m e with
    | .done r => .inl (some r)
    | .bad => .inl none
    | .next r => foldRun e r ms
noncomputable def foldOf (rows : List (List Nat)) (moves : List Int) (e : Bool) : Option (List (List Nat)) := match foldRun e rows moves with
  | .inl r => r
  | .inr _ => none

/-- the bounds of the walk -/
structure RowsOk (rows : List (List Nat)) : Prop where
  pos : 1 ≤ rows.length
  le : rows.length ≤ 6
  len : ∀ r ∈ rows, r.length ≤ 30

theorem cut_map {α β : Type} (f : α → β) (l : List α) (lo hi : Option Int) : cut (l.map f) lo hi = (cut l lo hi).map f := by
  unfold cut
  simp only [List.length_map, List.map_drop, List.map_take]
theorem cut_sub {α : Type} (l : List α) (lo hi : Option Int) : ∀ x ∈ cut l lo hi, x ∈ l := by
  intro x hx
  unfold cut at hx
  exact List.mem_of_mem_drop (List.mem_of_mem_take hx)
theorem clipAt_pos {k : Nat} {i : Int} (h : 0 ≤ i) : clipAt k i = min i.toNat k := by
  obtain ⟨m, rfl⟩ := Int.eq_ofNat_of_zero_le h
  unfold clipAt
  rw [if_neg (Int.not_lt.mpr h), Int.max_eq_right (Int.le_min.mpr ⟨h, Int.natCast_nonneg _⟩)]
  rcases Nat.le_total m k with q | q
  · rw [Int.min_eq_left (Int.ofNat_le.mpr q), Int.toNat_natCast, Nat.min_eq_left q]
  · rw [Int.min_eq_right (Int.ofNat_le.mpr q), Int.toNat_natCast, Int.toNat_natCast, Nat.min_eq_right q]
theorem cut_take {α : Type} (l : List α) {g : Int} (h : 0 ≤ g) : cut l none (some g) = l.take g.toNat := by
  unfold cut
  simp only [Option.elim, List.drop_zero, Nat.sub_zero, clipAt_pos h]
  rw [List.take_eq_take_iff, Nat.min_assoc, Nat.min_self]
theorem cut_drop {α : Type} (l : List α) {g : Int} (h : 0 ≤ g) : cut l (some g) none = l.drop g.toNat := by
  unfold cut
  simp only [Option.elim, clipAt_pos h]
  rw [List.take_of_length_le (by rw [List.length_drop]; lia)]
  by_cases q : g.toNat ≤ l.length
  · rw [Nat.min_eq_left q]
  · rw [Nat.min_eq_right (by lia), List.drop_length, List.drop_of_length_le (by lia)]
theorem goneAt_pos (rows : List (List Nat)) (b : Int) : 0 ≤ goneAt rows b := by
  have := List.length_pos_iff.mpr (splitOn_ne 10 (cut (joinOn 10 rows) none (some b)))
  unfold goneAt; lia
theorem without_ok {rows : List (List Nat)} {g : Int} (h : RowsOk rows) (h2 : 2 ≤ rows.length) (hg : 0 ≤ g) : RowsOk (without rows g) := by
  have hl := h.le
  unfold without
  rw [cut_take _ hg, cut_drop _ (Int.add_nonneg hg (by decide)), Int.toNat_add hg (by decide), show (1 : Int).toNat = 1 from rfl]
  have e := List.length_eraseIdx (l := rows) (i := g.toNat)
  rw [List.eraseIdx_eq_take_drop_succ] at e
  refine ⟨?_, ?_, fun r hr => ?_⟩
  · refine Nat.le_trans ?_ (Nat.le_of_eq e.symm)
    split
    · exact Nat.le_sub_one_of_lt h2
    · exact h.pos
  · refine Nat.le_trans (Nat.le_of_eq e) ?_
    split
    · exact Nat.le_trans (Nat.sub_le _ _) hl
    · exact hl
  · rcases List.mem_append.mp hr with q | q
    · exact h.len r (List.mem_of_mem_take q)
    · exact h.len r (List.mem_of_mem_drop q)
theorem spans_two {rows : List (List Nat)} {e : Bool} (h : spansOf rows e ≠ []) : 2 ≤ rows.length := by
  rcases Nat.lt_or_ge rows.length 2 with q | q
  · exfalso
    apply h
    unfold spansOf
    have : rangeL 1 rows.length 1 = [] := by unfold rangeL; rw [if_neg (by lia)]; rfl
    rw [this]; rfl
  · exact q
theorem foldTake_ok {rows r : List (List Nat)} {f : Option (Int × Int)} {a : List (Int × Int)} (h : RowsOk rows) (h2 : f ≠ none → 2 ≤ rows.length) (hs : foldTake rows f a = .next r) : RowsOk r := by
  unfold foldTake at hs
  split at hs
  · cases hs
  · split at hs
    · cases hs
    · cases hs
      exact without_ok h (h2 (by simp)) (goneAt_pos _ _)
theorem foldStep_ok {rows r : List (List Nat)} {m : Int} {e : Bool} (h : RowsOk rows) (hs : foldStep rows m e = .next r) : RowsOk r := by
  have h2 : ∀ col, srev (nxS (spansOf rows e)) col ≠ none → 2 ≤ rows.length := fun col hc => spans_two (e := e) fun q => hc (by rw [q]; rfl)
  unfold foldStep at hs
  split at hs
  · split at hs
    · cases hs
    · exact foldTake_ok h (h2 _) hs
  · exact foldTake_ok h (h2 _) hs

noncomputable abbrev spanP (s : Int × Int) : VP := vTup [vInt s.1, vInt s.2]
noncomputable def spanD (s : Int × Int) : PyData := .tuple [.int s.1, .int s.2]
theorem reads_span (s : Int × Int) : (spanP s).Reads (spanD s) := reads_tup ⟨reads_int _, reads_int _, trivial⟩
theorem reads_spans (a : List (Int × Int)) : (vLst (a.map spanP)).Reads (.list (a.map spanD)) := reads_lst (readsL_map spanP spanD reads_span a)
theorem eqv_span (a b : Int × Int) : PyData.eqv (spanD a) (spanD b) = decide (a = b) := by
  show (PyData.eqv (.int a.1) (.int b.1) && (PyData.eqv (.int a.2) (.int b.2) && true)) = _
  rw [eqv_int, eqv_int, Bool.and_true, ← Bool.decide_and]
  congr 1
  exact propext ⟨fun h => Prod.ext h.1 h.2, fun h => by rw [h]; exact ⟨rfl, rfl⟩⟩
theorem eqv_spans : ∀ (a b : List (Int × Int)), PyData.eqvAll (a.map spanD) (b.map spanD) = decide (a = b)
  | [], [] => rfl
  | [], _ :: _ => rfl
  | _ :: _, [] => rfl
  | x :: a, y :: b => by
    show (PyData.eqv (spanD x) (spanD y) && PyData.eqvAll (a.map spanD) (b.map spanD)) = _
    rw [eqv_span, eqv_spans a b, ← Bool.decide_and]
    congr 1; simp
theorem canLay_spans (a : List (Int × Int)) : PyData.canLayAll0 (a.map spanD) = true := by
  induction a with
  | nil => rfl
  | cons x r ih => simp [PyData.canLayAll0, PyData.canLay0, spanD, ih]
theorem depth_spans (a : List (Int × Int)) : PyData.depthAll (a.map spanD) ≤ 3 := by
  induction a with
  | nil => simp [PyData.depthAll]
  | cons x r ih => simp [PyData.depthAll, PyData.depth, spanD]; lia
theorem shaped_spans (a : List (Int × Int)) : SeqAt.shaped (.list (a.map spanD)) = true := by
  have h1 := canLay_spans a
  have h2 := depth_spans a
  refine Bool.and_eq_true_iff.mpr ⟨?_, decide_eq_true ?_⟩
  · simp only [PyData.canLay0, h1]
  · simp only [PyData.depth]; lia
theorem CmpG.eqSpans {C : Cx} {a b : List (Int × Int)} : CmpG C .Eq (vLst (a.map spanP)) (vLst (b.map spanP)) (decide (a = b)) := by
  rw [← eqv_spans]; exact CmpG.eqD (reads_spans a) (reads_spans b) (shaped_spans a) (shaped_spans b)
theorem CmpG.neSpans {C : Cx} {a b : List (Int × Int)} : CmpG C .NotEq (vLst (a.map spanP)) (vLst (b.map spanP)) (!decide (a = b)) := by
  rw [← eqv_spans]; exact CmpG.neD (reads_spans a) (reads_spans b) (shaped_spans a) (shaped_spans b)

theorem sum_le : ∀ {L : List (List Nat)} {k : Nat}, (∀ r ∈ L, r.length ≤ k) → (L.map (·.length)).sum ≤ k * L.length
  | [], _, _ => by simp
  | x :: L, k, h => by
    have := sum_le (L := L) (k := k) fun r hr => h r (.tail _ hr)
    have := h x (.head _)
    simp only [List.map_cons, List.sum_cons, List.length_cons, Nat.mul_add, Nat.mul_one]; lia
theorem joinOn_length (c : Nat) : ∀ (L : List (List Nat)), (joinOn c L).length ≤ (L.map (·.length)).sum + L.length
  | [] => by simp [joinOn]
  | [p] => by simp [joinOn]
  | p :: q :: L => by
    have := joinOn_length c (q :: L)
    simp only [joinOn, List.length_append, List.length_cons, List.map_cons, List.sum_cons] at this ⊢; lia
theorem RowsOk.text {rows : List (List Nat)} (h : RowsOk rows) : (rows.map (·.length)).sum + rows.length ≤ 200 ∧ (joinOn 10 rows).length ≤ 200 := by
  have a1 := sum_le h.len
  have a2 := joinOn_length 10 rows
  have := h.le
  lia

end Mine

/-! LLaw2 -/
set_option maxRecDepth 10000
namespace Mine
open PySem PySem.W PyProof.Rows

noncomputable def part (k : Int) : List Nat := if k = 0 then [] else if k = 1 then [32] else if k = 2 then [9] else [32, 32, 32]
noncomputable def leadOf (v : Int) : List Nat := part (v % 4) ++ part (v / 4 % 4) ++ part (v / 16 % 4)
theorem part_len (k : Int) : (part k).length ≤ 3 := by
  unfold part
  repeat' split
  all_goals simp
theorem leadOf_len (v : Int) : (leadOf v).length ≤ 9 := by
  have := part_len (v % 4); have := part_len (v / 4 % 4); have := part_len (v / 16 % 4)
  unfold leadOf; rw [List.length_append, List.length_append]; lia

/-- the sums of every c-th number -/
noncomputable def sumAt (xs : List Int) (c k : Int) : Int := ((rangeL k xs.length c).map fun i => xs.getD i.toNat 0).sum
noncomputable def values2 (xs : List Int) : List Int := (rangeL 0 6 1).map fun k => sumAt xs 6 k % 128 + [66, 6, 89, 15, 124, 10].getD k.toNat 0
noncomputable def backOf (xs : List Int) : List Int := (rangeL 1 (xs.length + 1) 1).map fun k => xs.getD (-k + xs.length).toNat 0
noncomputable def firsts2 (xs : List Int) : List Int := (cut (xs ++ [0, 45, 20, 57, 3, 8]) none (some 6)).map fun x => x % 90
noncomputable def lasts2 (xs : List Int) : List Int := (cut (backOf xs ++ [53, 14, 1, 30, 44, 5]) none (some 6)).map fun x => x % 90
noncomputable def tail2 (v : Int) : List Nat := if v / 64 % 2 = 0 then [] else [32, 9]
noncomputable def rows2 (vs : List Int) : List (List Nat) := (rangeL 0 6 1).map fun k => leadOf (vs.getD k.toNat 0) ++ [97 + k.toNat] ++ tail2 (vs.getD k.toNat 0)
noncomputable def cols2 (vs : List Int) : List (List Int) := vs.map fun v => columnsOf (leadOf v)

theorem rows2_ok (vs : List Int) : RowsOk (rows2 vs) := by
  refine ⟨by simp [rows2, rangeL], by simp [rows2, rangeL], fun r hr => ?_⟩
  obtain ⟨k, _, rfl⟩ := List.mem_map.mp hr
  have := leadOf_len (vs.getD k.toNat 0)
  have : (tail2 (vs.getD k.toNat 0)).length ≤ 2 := by unfold tail2; split <;> simp
  simp only [List.length_append, List.length_cons, List.length_nil]; lia

theorem eqv_str (a : Str) : PyData.eqv (.str a) (.str a) = true := by simp [PyData.eqv]
theorem eqvAll_strs : ∀ (a : List (List Nat)), PyData.eqvAll (a.map fun x => .str ⟨x.toArray⟩) (a.map fun x => .str ⟨x.toArray⟩) = true
  | [] => rfl
  | x :: a => by
    show (PyData.eqv (.str _) (.str _) && PyData.eqvAll _ _) = true
    rw [eqv_str, eqvAll_strs a]; rfl
theorem reads_rows (a : List (List Nat)) : (vLst (a.map vS)).Reads (.list (a.map fun x => .str ⟨x.toArray⟩)) := reads_lst (readsL_map vS (fun x => .str ⟨x.toArray⟩) reads_S a)
theorem canLay_strs (a : List (List Nat)) (h : ∀ x ∈ a, PyData.strOk ⟨x.toArray⟩ = true) : PyData.canLayAll0 (a.map fun x => .str ⟨x.toArray⟩) = true := by
  induction a with
  | nil => rfl
  | cons x r ih => simp only [List.map_cons, PyData.canLayAll0, PyData.canLay0, ih fun y hy => h y (.tail _ hy), h x (.head _), Bool.and_true]
theorem depth_strs (a : List (List Nat)) : PyData.depthAll (a.map fun x => .str ⟨x.toArray⟩) ≤ 1 := by
  induction a with
  | nil => simp [PyData.depthAll]
  | cons x r ih => simp only [List.map_cons, PyData.depthAll, PyData.depth]; lia
theorem shaped_rows (a : List (List Nat)) (h : ∀ x ∈ a, PyData.strOk ⟨x.toArray⟩ = true) : SeqAt.shaped (.list (a.map fun x => .str ⟨x.toArray⟩)) = true := by
  have h1 := canLay_strs a h
  have h2 := depth_strs a
  refine Bool.and_eq_true_iff.mpr ⟨?_, decide_eq_true ?_⟩
  · simp only [PyData.canLay0, h1]
  · simp only [PyData.depth]; lia
theorem CmpG.eqRows {C : Cx} {a : List (List Nat)} (h : ∀ x ∈ a, PyData.strOk ⟨x.toArray⟩ = true) : CmpG C .Eq (vLst (a.map vS)) (vLst (a.map vS)) true := by
  rw [← eqvAll_strs a]; exact CmpG.eqD (reads_rows a) (reads_rows a) (shaped_rows a h) (shaped_rows a h)
theorem CmpG.neRows {C : Cx} {a : List (List Nat)} (h : ∀ x ∈ a, PyData.strOk ⟨x.toArray⟩ = true) : CmpG C .NotEq (vLst (a.map vS)) (vLst (a.map vS)) false := by
  have := CmpG.neD (C := C) (reads_rows a) (reads_rows a) (shaped_rows a h) (shaped_rows a h)
  rwa [show PyData.eqv (.list (a.map fun x => .str ⟨x.toArray⟩)) (.list (a.map fun x => .str ⟨x.toArray⟩)) = true from eqvAll_strs a] at this
theorem mem_rangeLc {a b c i : Int} (hc : 0 < c) (h : i ∈ rangeL a b c) : a ≤ i ∧ i < b := by
  unfold rangeL at h
  obtain ⟨k, hk, rfl⟩ := List.mem_map.mp h
  rw [List.mem_range] at hk
  have hk0 : (0 : Int) ≤ (k : Int) * c := Int.mul_nonneg (by lia) (by lia)
  split at hk
  · refine ⟨by lia, ?_⟩
    have h1 : (k : Int) ≤ (b - a - 1) / c := by lia
    have h2 : (k : Int) * c ≤ (b - a - 1) / c * c := Int.mul_le_mul_of_nonneg_right h1 (by lia)
    have h3 := Int.ediv_mul_le (b - a - 1) (b := c) (by lia)
    lia
  · lia
theorem rangeLc_length {k : Int} {N : Nat} {c : Int} (hk : 0 ≤ k) (hc : 0 < c) : (rangeL k N c).length ≤ N + 1 := by
  unfold rangeL
  rw [List.length_map, List.length_range]
  split
  · have h1 : (N - k - 1) / c ≤ N - k - 1 := Int.ediv_le_self _ (by lia)
    lia
  · lia
theorem get_int {xs : List Int} {k : Nat} (h : k < xs.length) : (xs.map vInt)[k]? = some (vInt (xs.getD k 0)) := by
  rw [List.getElem?_map, List.getD_eq_getElem?_getD, List.getElem?_eq_getElem h]; rfl
theorem part_str (k : Int) : ∀ c ∈ part k, c < 200 := by
  unfold part
  repeat' split
  all_goals (intro c hc; simp at hc; try lia)
theorem rows2_str (vs : List Int) : ∀ x ∈ rows2 vs, ∀ c ∈ x, c < 200 := by
  intro x hx c hc
  obtain ⟨k, hk, rfl⟩ := List.mem_map.mp hx
  have hk' := mem_rangeL hk
  rcases List.mem_append.mp hc with hc | hc
  · rcases List.mem_append.mp hc with hc | hc
    · rcases List.mem_append.mp hc with hc | hc
      · rcases List.mem_append.mp hc with hc | hc
        · exact part_str _ c hc
        · exact part_str _ c hc
      · exact part_str _ c hc
    · have := List.mem_singleton.mp hc; lia
  · unfold tail2 at hc
    split at hc
    · cases hc
    · simp at hc; lia
theorem left_str (vs : List Int) (cols : List (List Int)) (e : Bool) : ∀ x ∈ leftOf (rows2 vs) cols e, PyData.strOk ⟨x.toArray⟩ = true := by
  intro x hx
  have hc : ∀ c ∈ x, c < 200 := by
    obtain ⟨j, _, rfl⟩ := List.mem_map.mp hx
    rw [List.getD_eq_getElem?_getD]
    cases h : (rows2 vs)[j.toNat]? with
    | none => intro c hc; cases hc
    | some y => exact rows2_str vs y (List.mem_of_getElem? h)
  unfold PyData.strOk
  rw [Array.all_eq_true']
  intro c hc'
  have := hc c (by simpa using hc')
  simp; lia
end Mine

/-! LJoin -/
set_option maxRecDepth 10000
namespace Mine
open PySem PySem.W PyProof.Rows

/-- a call of a def, as code -/
noncomputable def CodeG (C : Cx) (n : Nat) (a : Addr) (ps : List VP) (r : VP) : Prop :=
  ∀ A S s vs (R : Result → Shared → Prop), Inv C S s → AOk n A → All2 S s.heap vs ps → (∀ v S' s', Grow C S s S' s' → r.P S' s'.heap v → R (.ok (.ret v)) s') → codeAny C.M A (.call (.ref a) ⟨vs, []⟩) R s

theorem CodeG.top {C : Cx} {n : Nat} {a : Addr} {fd : FuncData} {body : List Stmt} {xs : List Str} {fr : Shape} {ps : List VP} {o : Out} {r : VP} (D : DefOk C a fd body xs fr) (hl : ps.length = xs.length)
    (h : Ex C fr n (startVals ps (fr.names.length - xs.length)) body o) (he : Ends o r) : CodeG C (n + 1) a ps r := fun A S s vs R I hA hx hR =>
  code_topAt D hl I hA hx fun env A' s₁ _ _ _ g F => wpAny_mono (h _ env A' S s₁ F) (fun f s' pq => by
    obtain ⟨S', st, y⟩ := pq
    have g' : Grow C S s S' s' := Step.trans g st
    cases he with
    | ret p => cases f <;> first | exact y.elim | exact hR _ S' s' g' y
    | next v => cases f <;> first | exact y.elim | exact hR _ S' s' g' rfl) fun _ _ z => z

/-- the ground of a run -/
theorem inv_start {prog : Program} {w : World} {s₁ : Shared} {tabs : List (Addr × Addr)} {specs : List TabSpec} (hT : TabsAt tabs s₁.heap) (hs : specs.map (fun t => (t.c, t.P)) = tabs) :
    Inv ⟨prog, w, ghostOf s₁.heap tabs, specs, s₁.gens, s₁.os⟩ (liveIn (ghostOf s₁.heap tabs)) s₁ := by
  have mem : ∀ t ∈ specs, (t.c, t.P) ∈ tabs := fun t ht => by rw [← hs]; exact List.mem_map_of_mem ht
  refine ⟨fun b o e => ⟨of_hideAll _ e, live_of e⟩, fun a ha => ?_, fun t ht => ?_, fun a ha => ?_, rfl, rfl⟩
  · obtain ⟨o, e⟩ := live_get ha
    exact live_of (of_hideAll _ e)
  · exact ⟨#[], (hT _ (mem t ht)).2, trivial, fun x _ => .inl rfl⟩
  · rintro ⟨t, ht, rfl⟩
    obtain ⟨o, e⟩ := live_get ha
    rw [hideAll_none _ (List.mem_map_of_mem (f := (·.2)) (mem t ht))] at e
    cases e

theorem start_list {w : World} {s₁ : Shared} {tabs : List (Addr × Addr)} {a : Addr} {xs : List Int} (hT : TabsAt tabs s₁.heap) (hw : Well w.params s₁.heap (.ref a) (ofPy (PyData.list (xs.map PyData.int)))) :
    (vLst (xs.map vInt)).P (liveIn (ghostOf s₁.heap tabs)) s₁.heap (.ref a) := by
  have key : ∀ {vs : List Value} {xs : List Int} {S : ASet}, WellAll w.params s₁.heap vs (xs.map fun x => WData.int x) → All2 S s₁.heap vs (xs.map vInt) := by
    intro vs xs
    induction xs generalizing vs with
    | nil => intro S h; cases h; trivial
    | cons x r ih =>
      intro S h
      cases h with
      | cons h1 h2 => cases h1; exact ⟨⟨_, rfl⟩, ih h2⟩
  have e : ofPy (PyData.list (xs.map PyData.int)) = WData.list (xs.map fun x => WData.int x) := by
    have k : ∀ l : List Int, ofPys (l.map PyData.int) = l.map fun x => WData.int x := fun l => by
      induction l with
      | nil => rfl
      | cons x r ih => show ofPy (.int x) :: ofPys _ = _; rw [ih]; rfl
    show WData.list (ofPys _) = _
    rw [k]
  rw [e] at hw
  cases hw with
  | list h1 h2 =>
    have hg := ghost_get hT h1 (by intro q; cases q)
    exact ⟨_, _, rfl, live_of hg, .of h1, key h2⟩

theorem grownAll_of {h : Heap} : ∀ {tabs : List (Addr × Addr)}, (∀ q ∈ tabs, GrownAt q.2 h) → GrownAll tabs h
  | [], _ => trivial
  | _ :: _, k => ⟨k _ (.head _), grownAll_of fun q hq => k q (.tail _ hq)⟩

theorem aok_caller : AOk 20 callerA := ⟨rfl, by decide +kernel, by decide +kernel⟩

theorem law_end {prog : Program} {w : World} {s₁ : Shared} {tabs : List (Addr × Addr)} {specs : List TabSpec} {cw : ClaimW} {cl : Str → Option Addr} {mean : ExcName → Option Value} {args : List WData} {fa a : Addr} {xs : List Int}
    (hT : TabsAt tabs s₁.heap) (hs : specs.map (fun t => (t.c, t.P)) = tabs) (hg : s₁.gens = #[]) (hl : (vLst (xs.map vInt)).P (liveIn (ghostOf s₁.heap tabs)) s₁.heap (.ref a))
    (hfn : CodeG ⟨prog, w, ghostOf s₁.heap tabs, specs, s₁.gens, s₁.os⟩ 20 fa [vLst (xs.map vInt)] (vBool true)) (hpost : cw.post args (.bool true) args = true) (hnr : ∀ cls, cw.raises args cls = false) :
    codeAny (model prog w) callerA (.call (.ref fa) ⟨[.ref a], []⟩) (fun r s' => GoodW cw cl mean args { s₁ with heap := ghostOf s₁.heap tabs } r s' ∧ GrownAll tabs s'.heap) s₁ :=
  hfn callerA _ s₁ [.ref a] _ (inv_start hT hs) aok_caller ⟨hl, trivial⟩ fun v S' s' g hv => by
    cases (show v = .bool true from hv)
    refine ⟨⟨.inl ⟨_, .bool true, [], rfl, hnr, .bool true, hpost, fun _ => ⟨List.nodup_nil, fun _ h => nomatch h⟩⟩, fun b o e => (g.inv.base b o e).1, g.inv.os, g.inv.gens.trans hg⟩, grownAll_of fun q hq => ?_⟩
    rw [← hs] at hq
    obtain ⟨t, ht, rfl⟩ := List.mem_map.mp hq
    obtain ⟨ps, e, _⟩ := g.inv.tab t ht
    exact ⟨ps, e⟩
end Mine

/-! P2a -/
set_option maxRecDepth 100000
namespace Mine
open PySem PySem.W PyProof.Rows

noncomputable def lessCols (a b : List Int) : Bool := (a.zip b).all fun p => decide (p.1 < p.2)
noncomputable def tableOf (l : List Nat) : WsS × List Int := (wsOf l, columnsOf l)
noncomputable def triples : List (List Nat) := (List.range 4).flatMap fun (a : Nat) => (List.range 4).flatMap fun (b : Nat) => (List.range 4).map fun (c : Nat) => part a ++ part b ++ part c
noncomputable def leadsOnce : List (List Nat) := triples.foldr (fun l acc => if acc.contains l = true then acc else l :: acc) []
noncomputable def table : List (WsS × List Int) := leadsOnce.map tableOf
theorem leads_all : triples.all (fun l => leadsOnce.contains l) = true := by decide +kernel
set_option maxHeartbeats 4000000 in
theorem pairs_less : (table.all fun x => table.all fun y => lessB x.1 y.1 == lessCols x.2 y.2) = true := by decide +kernel
set_option maxHeartbeats 4000000 in
theorem pairs_equal : (table.all fun x => table.all fun y => equalB x.1 y.1 == decide (x.2 = y.2)) = true := by decide +kernel
end Mine

/-! P2b -/
set_option maxRecDepth 10000
namespace Mine
open PySem PySem.W PyProof.Rows

theorem wsScan_stop (c : Nat) (r : List Nat) (hc : c ≠ 32 ∧ c ≠ 9) : ∀ (l : List Nat) (st : WsS), (∀ x ∈ l, x = 32 ∨ x = 9) → wsScan (l ++ c :: r) st = wsScan l st
  | [], st, _ => by simp [wsScan, hc.1, hc.2]
  | x :: l, st, h => by
    have ih := fun st => wsScan_stop c r hc l st fun y hy => h y (.tail _ hy)
    rcases h x (.head _) with rfl | rfl
    · simp [wsScan, ih]
    · simp [wsScan, ih]
theorem part_signs (k : Int) : ∀ x ∈ part k, x = 32 ∨ x = 9 := by
  unfold part
  repeat' split
  all_goals (intro x hx; simp at hx; try lia)
theorem lead_signs (v : Int) : ∀ x ∈ leadOf v, x = 32 ∨ x = 9 := by
  intro x hx
  unfold leadOf at hx
  rcases List.mem_append.mp hx with hx | hx
  · rcases List.mem_append.mp hx with hx | hx
    · exact part_signs _ x hx
    · exact part_signs _ x hx
  · exact part_signs _ x hx
end Mine

/-! P2c -/
set_option maxRecDepth 10000
namespace Mine
open PySem PySem.W PyProof.Rows

theorem lessCols_iff {a b : List Int} (h : a.length = b.length) : lessCols a b = true ↔ ∀ i, i < a.length → a.getD i 0 < b.getD i 0 := by
  unfold lessCols
  rw [List.all_eq_true]
  constructor
  · intro k i hi
    have hb : i < b.length := by lia
    have := k (a[i], b[i]) (by
      rw [List.mem_iff_getElem]
      exact ⟨i, by rw [List.length_zip]; lia, by rw [List.getElem_zip]⟩)
    simpa [List.getD_eq_getElem?_getD, List.getElem?_eq_getElem hi, List.getElem?_eq_getElem hb] using this
  · intro k p hp
    obtain ⟨i, hi, rfl⟩ := List.mem_iff_getElem.mp hp
    rw [List.length_zip] at hi
    have ha : i < a.length := by lia
    have hb : i < b.length := by lia
    have := k i ha
    rw [List.getElem_zip]
    simpa [List.getD_eq_getElem?_getD, List.getElem?_eq_getElem ha, List.getElem?_eq_getElem hb] using this
end Mine

namespace Mine
open PySem PySem.W PyProof.Rows
/-- farther left, as a relation -/
noncomputable def RelC (e : Bool) (a b : List Int) : Bool := lessCols a b || (e && decide (a = b))
theorem farther_rel {a b : List Int} (h : a.length = b.length) (e : Bool) : fartherB a b e = RelC e a b := by
  unfold fartherB RelC
  rw [Bool.or_comm]
  congr 1
  rw [Bool.eq_iff_iff, lessCols_iff h, decide_eq_true_eq, List.filter_eq_nil_iff]
  constructor
  · intro k i hi
    have := k i (by
      unfold rangeL
      refine List.mem_map.mpr ⟨i, List.mem_range.mpr (by split <;> lia), by lia⟩)
    simpa using this
  · intro k i hi
    have h' := mem_rangeL hi
    have := k i.toNat (by lia)
    simpa using this
theorem RelC.trans {e : Bool} {a b c : List Int} (h1 : a.length = b.length) (h2 : b.length = c.length) (x : RelC e a b = true) (y : RelC e b c = true) : RelC e a c = true := by
  unfold RelC at x y ⊢
  rcases Bool.or_eq_true_iff.mp x with x | x
  · rcases Bool.or_eq_true_iff.mp y with y | y
    · refine Bool.or_eq_true_iff.mpr (.inl ((lessCols_iff (h1.trans h2)).mpr fun i hi => ?_))
      have a1 := (lessCols_iff h1).mp x i hi
      have a2 := (lessCols_iff h2).mp y i (by lia)
      lia
    · obtain ⟨_, q⟩ := Bool.and_eq_true_iff.mp y
      rw [← of_decide_eq_true q, x]; rfl
  · obtain ⟨_, q⟩ := Bool.and_eq_true_iff.mp x
    rw [of_decide_eq_true q]; exact y
end Mine

namespace Mine
open PySem PySem.W PyProof.Rows
theorem mod4 (v : Int) : (((v % 4).toNat : Nat) : Int) = v % 4 ∧ (v % 4).toNat < 4 :=
  ⟨Int.toNat_of_nonneg (Int.emod_nonneg v (by decide)), (Int.toNat_lt (Int.emod_nonneg v (by decide))).mpr (Int.emod_lt_of_pos v (by decide))⟩
theorem in_table (v : Int) : (wsOf (leadOf v), columnsOf (leadOf v)) ∈ table := by
  refine List.mem_map.mpr ⟨leadOf v, List.contains_iff_mem.mp (List.all_eq_true.mp leads_all _ ?_), rfl⟩
  refine List.mem_flatMap.mpr ⟨(v % 4).toNat, List.mem_range.mpr (mod4 v).2, List.mem_flatMap.mpr ⟨(v / 4 % 4).toNat, List.mem_range.mpr (mod4 _).2, List.mem_map.mpr ⟨(v / 16 % 4).toNat, List.mem_range.mpr (mod4 _).2, ?_⟩⟩⟩
  rw [(mod4 v).1, (mod4 (v / 4)).1, (mod4 (v / 16)).1]
  rfl
theorem mayGo_rel (u v : Int) (e : Bool) : mayGo (wsOf (leadOf u)) (wsOf (leadOf v)) e = RelC e (columnsOf (leadOf u)) (columnsOf (leadOf v)) := by
  have h1 := List.all_eq_true.mp (List.all_eq_true.mp pairs_less _ (in_table u)) _ (in_table v)
  have h2 := List.all_eq_true.mp (List.all_eq_true.mp pairs_equal _ (in_table u)) _ (in_table v)
  have h1 := eq_of_beq h1
  have h2 := eq_of_beq h2
  dsimp only at h1 h2
  unfold mayGo RelC
  rw [h1, h2]
  cases e with
  | true => simp
  | false =>
    simp only [Bool.false_eq_true, if_false, Bool.false_and, Bool.or_false]
    by_cases q : columnsOf (leadOf u) = columnsOf (leadOf v)
    · have : lessCols (columnsOf (leadOf u)) (columnsOf (leadOf v)) = false := by
        rw [q, Bool.eq_false_iff]
        intro hl
        have := (lessCols_iff rfl).mp hl 0 (by simp [columnsOf, rangeL])
        lia
      rw [this]; rfl
    · simp [q]
end Mine

/-! P2d -/
set_option maxRecDepth 10000
namespace Mine
open PySem PySem.W PyProof.Rows

theorem join_nil_length (c : Nat) : ∀ (L : List (List Nat)), (joinOn c (L ++ [[]])).length = (L.map (·.length)).sum + L.length
  | [] => rfl
  | [p] => by simp [joinOn]
  | p :: q :: L => by
    have := join_nil_length c (q :: L)
    simp only [List.cons_append, joinOn, List.length_append, List.length_cons, List.map_cons, List.sum_cons] at this ⊢; lia
theorem join_split (c : Nat) : ∀ (L M : List (List Nat)), M ≠ [] → joinOn c (L ++ M) = joinOn c (L ++ [[]]) ++ joinOn c M
  | [], M, _ => by simp [joinOn]
  | [p], m :: M, _ => by simp [joinOn]
  | p :: q :: L, M, h => by
    have := join_split c (q :: L) M h
    simp only [List.cons_append, joinOn] at this ⊢
    rw [this]; simp
end Mine

namespace Mine
open PySem PySem.W PyProof.Rows
/-- spans in a row: each with a sign, each behind the one before -/
noncomputable def Sorted : Int → List (Int × Int) → Prop
  | _, [] => True
  | b, s :: r => b ≤ s.1 ∧ s.1 < s.2 ∧ Sorted s.2 r
theorem nxS_sorted {b : Int} {s : Int × Int} {r : List (Int × Int)} (h : Sorted b (s :: r)) : nxS (s :: r) b = some s := by
  obtain ⟨h1, h2, _⟩ := h
  unfold nxS
  rw [if_pos (by lia), show max s.1 b = s.1 by lia]
end Mine

namespace Mine
open PySem PySem.W PyProof.Rows
theorem nxS_skip : ∀ {pre r : List (Int × Int)} {b : Int}, (∀ x ∈ pre, x.2 ≤ b) → nxS (pre ++ r) b = nxS r b
  | [], _, _, _ => rfl
  | x :: pre, r, b, h => by
    rw [List.cons_append, nxS, if_neg (by have := h x (.head _); lia)]
    exact nxS_skip fun y hy => h y (.tail _ hy)
end Mine

/-! P2e -/
set_option maxRecDepth 10000
namespace Mine
open PySem PySem.W PyProof.Rows

theorem Sorted.above : ∀ {b : Int} {l : List (Int × Int)}, Sorted b l → ∀ x ∈ l, b ≤ x.1 ∧ x.1 < x.2
  | _, _ :: _, ⟨h1, h2, _⟩, _, .head _ => ⟨h1, h2⟩
  | _, _ :: _, ⟨h1, h2, h3⟩, x, .tail _ hx => by have := h3.above x hx; lia

theorem ahead_none {b col : Int} {l : List (Int × Int)} (h : Sorted b l) (hc : col < b) : aheadOf l col = [] := by
  unfold aheadOf
  rw [List.filter_eq_nil_iff]
  intro x hx
  have := h.above x hx
  simp; lia

theorem srevGo_sorted {sp : List (Int × Int)} {col : Int} : ∀ (r pre : List (Int × Int)) (s : Int × Int) (b : Int) (k : Nat) (f : Option (Int × Int)), sp = pre ++ s :: r → Sorted b (s :: r) → (∀ x ∈ pre, x.2 ≤ s.1) → 2 * (col + 1 - s.2) + 1 < k →
    srevGo (nxS sp) col k f s = match (aheadOf (s :: r) col).getLast? with | some m => some m | none => f
  | r, pre, s, b, k, f, e, hs, hp, hk => by
    obtain ⟨h1, h2, h3⟩ := id hs
    by_cases hc : s.2 ≤ col
    · obtain ⟨k, rfl⟩ : ∃ k', k = k' + 1 := ⟨k - 1, by lia⟩
      rw [srevGo, if_pos ⟨by lia, hc⟩, if_neg (by lia)]
      have hn : nxS sp s.2 = nxS r s.2 := by
        rw [e, show pre ++ s :: r = (pre ++ [s]) ++ r by simp]
        exact nxS_skip fun x hx => by
          rcases List.mem_append.mp hx with hx | hx
          · have := hp x hx; lia
          · rw [List.mem_singleton.mp hx]; lia
      rw [hn]
      have ha : aheadOf (s :: r) col = s :: aheadOf r col := List.filter_cons_of_pos (by simpa using hc)
      rw [ha]
      cases r with
      | nil => rfl
      | cons s' r =>
        rw [nxS_sorted h3]
        dsimp only
        have ih := srevGo_sorted (sp := sp) (col := col) r (pre ++ [s]) s' s.2 k (some s) (by rw [e]; simp) h3 (fun x hx => by
          rcases List.mem_append.mp hx with hx | hx
          · have := hp x hx; have := h3.1; lia
          · rw [List.mem_singleton.mp hx]; exact h3.1) (by have := h3.1; have := h3.2.1; lia)
        rw [ih]
        cases hq : aheadOf (s' :: r) col with
        | nil => rfl
        | cons y t => rw [List.getLast?_cons_cons]; cases hz : (y :: t).getLast? with
          | none => simp at hz
          | some z => rfl
    · have ha : aheadOf (s :: r) col = [] := by
        unfold aheadOf
        rw [List.filter_cons_of_neg (by simpa using hc)]
        exact ahead_none h3 (by lia)
      rw [ha]
      cases k with
      | zero => rfl
      | succ k => rw [srevGo, if_neg (by lia)]; rfl

theorem srev_sorted {sp : List (Int × Int)} (hs : Sorted 0 sp) (col : Int) : srev (nxS sp) col = (aheadOf sp col).getLast? := by
  unfold srev
  cases sp with
  | nil => rfl
  | cons s r =>
    rw [nxS_sorted hs]
    dsimp only
    have h := hs.1
    have h' := hs.2.1
    have q := srevGo_sorted (sp := s :: r) (col := col) r [] s 0 (2 * col + 5).toNat none rfl hs (fun _ h => nomatch h) (by lia)
    rw [q]
    cases (aheadOf (s :: r) col).getLast? <;> rfl
end Mine

/-! P2f -/
set_option maxRecDepth 10000
namespace Mine
open PySem PySem.W PyProof.Rows

/-- rows without a line end, each with a sign -/
noncomputable def Plain (rows : List (List Nat)) : Prop := ∀ r ∈ rows, 10 ∉ r ∧ 1 ≤ r.length

noncomputable def off (rows : List (List Nat)) (k : Nat) : Nat := ((rows.take k).map (·.length)).sum + k

theorem off_succ {rows : List (List Nat)} {k : Nat} (h : k < rows.length) : off rows (k + 1) = off rows k + (rows.getD k []).length + 1 := by
  unfold off
  rw [List.take_add_one, List.getElem?_eq_getElem h, List.map_append, List.sum_append, List.getD_eq_getElem?_getD, List.getElem?_eq_getElem h]
  simp; lia
theorem off_mono {rows : List (List Nat)} : ∀ {k j : Nat}, k ≤ j → j ≤ rows.length → off rows k ≤ off rows j := by
  intro k j
  induction j with
  | zero => intro h _; rw [show k = 0 by lia]; exact Nat.le_refl _
  | succ j ih =>
    intro h hj
    rcases Nat.lt_or_ge k (j + 1) with q | q
    · have := off_succ (rows := rows) (k := j) (by lia)
      have := ih (by lia) (by lia)
      lia
    · rw [show k = j + 1 by lia]; exact Nat.le_refl _
theorem beginAt_off {rows : List (List Nat)} {k : Int} (h0 : 0 ≤ k) (h1 : k ≤ rows.length) : beginAt rows k = off rows k.toNat := by
  unfold beginAt off
  rw [cut_take _ h0, join_nil_length, List.length_take]
  congr 1
  rw [Nat.min_eq_left ((Int.toNat_le).mpr h1)]
end Mine

/-! P2g -/
set_option maxRecDepth 10000
namespace Mine
open PySem PySem.W PyProof.Rows

noncomputable def spanK (rows : List (List Nat)) (k : Int) : Int × Int := (beginAt rows k, beginAt rows k + (rowAt rows k).length)

theorem spanK_next {rows : List (List Nat)} (hp : Plain rows) {k j : Int} (h0 : 0 ≤ k) (hkj : k < j) (hj : j < rows.length) : (spanK rows k).1 < (spanK rows k).2 ∧ (spanK rows k).2 < (spanK rows j).1 := by
  have hk : k.toNat < rows.length := by lia
  have h1 := off_succ (rows := rows) hk
  have h2 := off_mono (rows := rows) (k := k.toNat + 1) (j := j.toNat) (by lia) (by lia)
  have h3 : 1 ≤ (rows.getD k.toNat []).length := by
    rw [List.getD_eq_getElem?_getD, List.getElem?_eq_getElem hk]
    exact (hp _ (List.getElem_mem hk)).2
  unfold spanK rowAt
  dsimp only
  rw [beginAt_off h0 (by lia), beginAt_off (by lia) (by lia)]
  lia
theorem spanK_pos {rows : List (List Nat)} (hp : Plain rows) {k : Int} (h0 : 0 ≤ k) (hk : k < rows.length) : 0 ≤ (spanK rows k).1 ∧ (spanK rows k).1 < (spanK rows k).2 := by
  have hk' : k.toNat < rows.length := by lia
  have h3 : 1 ≤ (rows.getD k.toNat []).length := by
    rw [List.getD_eq_getElem?_getD, List.getElem?_eq_getElem hk']
    exact (hp _ (List.getElem_mem hk')).2
  unfold spanK rowAt
  dsimp only
  rw [beginAt_off h0 (by lia)]
  lia

/-- rising places -/
noncomputable def Rising : Int → List Int → Prop
  | _, [] => True
  | b, k :: r => b ≤ k ∧ Rising (k + 1) r
theorem Rising.mono : ∀ {b b' : Int} {l : List Int}, b' ≤ b → Rising b l → Rising b' l
  | _, _, [], _, _ => trivial
  | _, _, _ :: _, h, ⟨h1, h2⟩ => ⟨by lia, h2⟩
theorem Rising.filter (f : Int → Bool) : ∀ {b : Int} {l : List Int}, Rising b l → Rising b (l.filter f)
  | _, [], _ => trivial
  | b, k :: r, ⟨h1, h2⟩ => by
    cases q : f k with
    | true => rw [List.filter_cons_of_pos q]; exact ⟨h1, h2.filter f⟩
    | false => rw [List.filter_cons_of_neg (by rw [q]; decide)]; exact (h2.filter f).mono (by lia)
theorem Rising.range : ∀ (k : Nat) (a : Int), Rising a ((List.range k).map fun (i : Nat) => a + (i : Int) * 1)
  | 0, _ => trivial
  | k + 1, a => by
    rw [List.range_succ_eq_map, List.map_cons, List.map_map]
    refine ⟨by simp, ?_⟩
    have := Rising.range k (a + 1)
    rw [show (fun (i : Nat) => a + (i : Int) * 1) ∘ Nat.succ = fun (i : Nat) => a + 1 + (i : Int) * 1 from by funext i; simp only [Function.comp, Nat.succ_eq_add_one]; lia]
    simpa using this
theorem sorted_spans {rows : List (List Nat)} (hp : Plain rows) : ∀ (l : List Int) (b : Int), Rising b l → 0 ≤ b → (∀ k ∈ l, k < rows.length) → ∀ c, (∀ k ∈ l, c ≤ (spanK rows k).1) → Sorted c (l.map (spanK rows))
  | [], _, _, _, _, _, _ => trivial
  | k :: r, b, ⟨h1, h2⟩, hb, hl, c, hc => by
    refine ⟨hc k (.head _), (spanK_pos hp (by lia) (hl k (.head _))).2, ?_⟩
    refine sorted_spans hp r (k + 1) h2 (by lia) (fun j hj => hl j (.tail _ hj)) _ (fun j hj => ?_)
    have : k < j := by
      have key : ∀ {l : List Int} {b : Int}, Rising b l → ∀ x ∈ l, b ≤ x := by
        intro l
        induction l with
        | nil => intro b _ x hx; cases hx
        | cons y t ih =>
          intro b hr x hx
          rcases List.mem_cons.mp hx with rfl | hx
          · exact hr.1
          · have := ih hr.2 x hx; have := hr.1; lia
      have := key h2 j hj; lia
    exact Int.le_of_lt (spanK_next hp (by lia) this (hl j (.tail _ hj))).2
end Mine

/-! P2h -/
set_option maxRecDepth 10000
namespace Mine
open PySem PySem.W PyProof.Rows

theorem rising_rangeL (a b : Int) : Rising a (rangeL a b 1) := by
  unfold rangeL
  exact Rising.range _ a
theorem spans_sorted {rows : List (List Nat)} (hp : Plain rows) (e : Bool) : Sorted 0 (spansOf rows e) := by
  refine sorted_spans hp ((rangeL 1 rows.length 1).filter fun k => mayGo (wsOf (rowAt rows (k - 1))) (wsOf (rowAt rows k)) e) 1 (Rising.filter _ (rising_rangeL _ _)) (by decide) (fun k hk => ?_) 0 (fun k hk => ?_)
  · exact (mem_rangeL (List.mem_filter.mp hk).1).2
  · have := mem_rangeL (List.mem_filter.mp hk).1
    exact (spanK_pos hp (by lia) this.2).1

theorem join_at {rows : List (List Nat)} {k : Nat} (hk : k < rows.length) : joinOn 10 rows = joinOn 10 (rows.take k ++ [[]]) ++ joinOn 10 (rows.drop k) := by
  conv => lhs; rw [← List.take_append_drop k rows]
  exact join_split 10 _ _ (by intro q; have := congrArg List.length q; simp at this; lia)
theorem join_off {rows : List (List Nat)} {k : Nat} (hk : k ≤ rows.length) : (joinOn 10 (rows.take k ++ [[]])).length = off rows k := by
  rw [join_nil_length, List.length_take]
  unfold off; congr 1; lia
theorem join_first (p : List Nat) (L : List (List Nat)) : p.length ≤ (joinOn 10 (p :: L)).length := by
  cases L with
  | nil => exact Nat.le_refl _
  | cons q L => simp [joinOn]
theorem span_in {rows : List (List Nat)} {k : Int} (h0 : 0 ≤ k) (hk : k < rows.length) : (spanK rows k).2 ≤ (joinOn 10 rows).length := by
  have hk' : k.toNat < rows.length := by lia
  have h1 := congrArg List.length (join_at hk')
  rw [List.length_append, join_off (by lia), List.drop_eq_getElem_cons hk'] at h1
  have h2 := join_first rows[k.toNat] (rows.drop (k.toNat + 1))
  unfold spanK rowAt
  dsimp only
  rw [beginAt_off h0 (by lia), List.getD_eq_getElem?_getD, List.getElem?_eq_getElem hk']
  simp only [Option.getD_some]
  lia
theorem gone_spanK {rows : List (List Nat)} (hp : Plain rows) {k : Int} (h0 : 0 ≤ k) (hk : k < rows.length) : goneAt rows (spanK rows k).1 = k := by
  have hk' : k.toNat < rows.length := by lia
  unfold goneAt spanK
  dsimp only
  rw [beginAt_off h0 (by lia), cut_take _ (by lia), Int.toNat_natCast, join_at hk', List.take_left' (join_off (by lia)), splitOn_joinOn (by simp) (fun p hpm => by
    rcases List.mem_append.mp hpm with q | q
    · exact (hp p (List.mem_of_mem_take q)).1
    · rw [List.mem_singleton.mp q]; exact List.not_mem_nil)]
  simp; lia
theorem cut_last {α : Type} {a : List α} {m : α} (h : a.getLast? = some m) : cut a (some (-1)) none = [m] := by
  obtain ⟨b, rfl⟩ := List.getLast?_eq_some_iff.mp h
  unfold cut
  have : clipAt (b ++ [m]).length (-1) = b.length := by
    have e : (-1 : Int) + ((b ++ [m]).length : Nat) = b.length := by rw [List.length_append, List.length_singleton, Int.natCast_add, Int.add_comm]; exact Int.add_neg_cancel_right _ _
    unfold clipAt
    rw [if_pos (by decide), e, Int.min_eq_left (Int.ofNat_le.mpr (by simp)), Int.max_eq_right (Int.natCast_nonneg _), Int.toNat_natCast]
  simp only [Option.elim]
  rw [this, List.drop_left]
  simp

theorem foldTake_last {rows : List (List Nat)} (hp : Plain rows) (e : Bool) {a : List (Int × Int)} (hs : ∀ x ∈ a, x ∈ spansOf rows e) (ha : a ≠ []) :
    ∃ k ∈ (rangeL 1 rows.length 1).filter fun k => mayGo (wsOf (rowAt rows (k - 1))) (wsOf (rowAt rows k)) e, foldTake rows a.getLast? a = .next (without rows k) := by
  cases h : a.getLast? with
  | none => exact absurd (List.getLast?_eq_none_iff.mp h) ha
  | some m =>
    obtain ⟨k, hk, rfl⟩ := List.mem_map.mp (hs m (List.mem_of_getLast? h))
    refine ⟨k, hk, ?_⟩
    have hr := mem_rangeL (List.mem_filter.mp hk).1
    unfold foldTake
    dsimp only
    rw [cut_last h, if_neg (by simp)]
    have := gone_spanK hp (k := k) (by lia) hr.2
    unfold spanK at this
    dsimp only at this
    rw [this]

/-- one step: nothing to take, or a row that may go is taken -/
theorem foldStep_is {rows : List (List Nat)} (hp : Plain rows) (m : Int) (e : Bool) :
    (spansOf rows e = [] ∧ foldStep rows m e = .done rows) ∨ ∃ k ∈ (rangeL 1 rows.length 1).filter fun k => mayGo (wsOf (rowAt rows (k - 1))) (wsOf (rowAt rows k)) e, foldStep rows m e = .next (without rows k) := by
  have hs := spans_sorted hp e
  unfold foldStep
  simp only [srev_sorted hs]
  have hall : aheadOf (spansOf rows e) (joinOn 10 rows).length = spansOf rows e := by
    unfold aheadOf
    rw [List.filter_eq_self]
    intro x hx
    obtain ⟨k, hk, rfl⟩ := List.mem_map.mp hx
    have hr := mem_rangeL (List.mem_filter.mp hk).1
    have := span_in (rows := rows) (k := k) (by lia) hr.2
    exact decide_eq_true this
  by_cases ha : aheadOf (spansOf rows e) (placeOf rows m) = []
  · rw [if_pos ⟨by rw [ha]; rfl, ha⟩, hall]
    by_cases hb : spansOf rows e = []
    · rw [if_pos ⟨by rw [hb]; rfl, hb⟩]; exact .inl ⟨hb, rfl⟩
    · rw [if_neg fun q => hb q.2]
      exact .inr (foldTake_last hp e (fun _ h => h) hb)
  · rw [if_neg fun q => ha q.2]
    exact .inr (foldTake_last hp e (fun x h => (List.mem_filter.mp h).1) ha)
end Mine

/-! P2i -/
set_option maxRecDepth 10000
namespace Mine
open PySem PySem.W PyProof.Rows

/-- neighbours -/
noncomputable def Adj (ks : List Nat) (p z : Nat) : Prop := p ∈ ks ∧ z ∈ ks ∧ p < z ∧ ∀ y ∈ ks, ¬ (p < y ∧ y < z)

theorem getElem_lt_of_pairwise {ks : List Nat} (hs : ks.Pairwise (· < ·)) {i j : Nat} (hi : i < ks.length) (hj : j < ks.length) (h : i < j) : ks[i] < ks[j] := List.pairwise_iff_getElem.mp hs i j hi hj h

theorem adj_of {ks : List Nat} (hs : ks.Pairwise (· < ·)) {k : Nat} (h1 : k + 1 < ks.length) : Adj ks ks[k] ks[k + 1] := by
  refine ⟨List.getElem_mem _, List.getElem_mem _, getElem_lt_of_pairwise hs _ _ (by lia), fun y hy hq => ?_⟩
  obtain ⟨i, hi, rfl⟩ := List.mem_iff_getElem.mp hy
  rcases Nat.lt_trichotomy i k with q | q | q
  · have := getElem_lt_of_pairwise hs hi (by lia) q; lia
  · subst q; lia
  · rcases Nat.lt_or_ge i (k + 1) with q' | q'
    · lia
    · rcases Nat.lt_or_eq_of_le q' with q' | q'
      · have := getElem_lt_of_pairwise hs h1 hi q'; lia
      · subst q'; lia
theorem of_adj {ks : List Nat} (hs : ks.Pairwise (· < ·)) {p z : Nat} (h : Adj ks p z) : ∃ k, ∃ h1 : k + 1 < ks.length, p = ks[k] ∧ z = ks[k + 1] := by
  obtain ⟨hp, hz, hlt, hno⟩ := h
  obtain ⟨i, hi, rfl⟩ := List.mem_iff_getElem.mp hp
  obtain ⟨j, hj, rfl⟩ := List.mem_iff_getElem.mp hz
  have hij : i < j := by
    rcases Nat.lt_trichotomy i j with q | q | q
    · exact q
    · subst q; lia
    · have := getElem_lt_of_pairwise hs hj hi q; lia
  have : j = i + 1 := by
    rcases Nat.lt_or_ge (i + 1) j with q | q
    · exfalso
      exact hno ks[i + 1] (List.getElem_mem _) ⟨getElem_lt_of_pairwise hs _ _ (by lia), getElem_lt_of_pairwise hs _ _ q⟩
    · lia
  subst this
  exact ⟨i, hj, rfl, rfl⟩

/-- what is kept, and why the rest is gone -/
structure Kept (R : Nat → Nat → Prop) (N : Nat) (ks : List Nat) : Prop where
  sorted : ks.Pairwise (· < ·)
  lt : ∀ k ∈ ks, k < N
  first : 0 ∈ ks
  gone : ∀ x, x < N → x ∉ ks → ∃ p ∈ ks, p < x ∧ R p x ∧ ∀ y ∈ ks, ¬ (p < y ∧ y ≤ x)

theorem Kept.erase {R : Nat → Nat → Prop} {N : Nat} {ks : List Nat} (tr : ∀ a b c, R a b → R b c → R a c) (K : Kept R N ks) {k : Nat} (h1 : k + 1 < ks.length) (hr : R ks[k] ks[k + 1]) :
    Kept R N (ks.eraseIdx (k + 1)) := by
  have A := adj_of K.sorted h1
  obtain ⟨a1, a2, a3, a4⟩ := A
  have mem : ∀ y, y ∈ ks.eraseIdx (k + 1) ↔ y ∈ ks ∧ y ≠ ks[k + 1] := by
    intro y
    rw [List.mem_eraseIdx_iff_getElem]
    constructor
    · rintro ⟨i, hi, hne, rfl⟩
      refine ⟨List.getElem_mem _, fun q => hne ?_⟩
      rcases Nat.lt_trichotomy i (k + 1) with z | z | z
      · have := getElem_lt_of_pairwise K.sorted hi h1 z; lia
      · exact z
      · have := getElem_lt_of_pairwise K.sorted h1 hi z; lia
    · rintro ⟨hy, hne⟩
      obtain ⟨i, hi, rfl⟩ := List.mem_iff_getElem.mp hy
      exact ⟨i, hi, fun q => hne (by subst q; rfl), rfl⟩
  refine ⟨K.sorted.sublist (List.eraseIdx_sublist _ _), fun y hy => K.lt y ((mem y).mp hy).1, (mem 0).mpr ⟨K.first, by lia⟩, fun x hx hxk => ?_⟩
  by_cases hxm : x ∈ ks
  · have hxz : x = ks[k + 1] := by
      rcases Decidable.em (x = ks[k + 1]) with q | q
      · exact q
      · exact absurd ((mem x).mpr ⟨hxm, q⟩) hxk
    subst hxz
    refine ⟨ks[k], (mem _).mpr ⟨a1, by lia⟩, a3, hr, fun y hy hq => ?_⟩
    have hy' := (mem y).mp hy
    exact a4 y hy'.1 ⟨hq.1, by lia⟩
  · obtain ⟨p, hp, hpx, hR, hno⟩ := K.gone x hx hxm
    by_cases hpz : p = ks[k + 1]
    · refine ⟨ks[k], (mem _).mpr ⟨a1, by lia⟩, by lia, tr _ _ _ hr (hpz ▸ hR), fun y hy hq => ?_⟩
      have hy' := (mem y).mp hy
      rcases Nat.lt_trichotomy y p with q | q | q
      · exact a4 y hy'.1 ⟨hq.1, by lia⟩
      · exact hy'.2 (q.trans hpz)
      · exact hno y hy'.1 ⟨q, hq.2⟩
    · exact ⟨p, (mem p).mpr ⟨hp, hpz⟩, hpx, hR, fun y hy hq => hno y ((mem y).mp hy).1 hq⟩

/-- gone by the columns -/
noncomputable def GoneBy (R : Nat → Nat → Prop) (x : Nat) : Prop := ∃ i, i < x ∧ ∀ k, i < k → k ≤ x → R i k

theorem exists_least {P : Nat → Prop} {n : Nat} (h : P n) : ∃ m, m ≤ n ∧ P m ∧ ∀ y, y < m → ¬ P y := by
  induction n using Nat.strongRecOn with
  | ind n ih =>
    by_cases q : ∃ y, y < n ∧ P y
    · obtain ⟨y, hy, hP⟩ := q
      obtain ⟨m, h1, h2, h3⟩ := ih y hy hP
      exact ⟨m, by lia, h2, h3⟩
    · exact ⟨n, Nat.le_refl _, h, fun y hy hP => q ⟨y, hy, hP⟩⟩

theorem Kept.end {R : Nat → Nat → Prop} {N : Nat} {ks : List Nat} (tr : ∀ a b c, R a b → R b c → R a c) (K : Kept R N ks) (hno : ∀ k (h1 : k + 1 < ks.length), ¬ R ks[k] ks[k + 1]) (x : Nat) (hx : x < N) : x ∈ ks ↔ ¬ GoneBy R x := by
  constructor
  · rintro hxk ⟨i, hi, hall⟩
    obtain ⟨j, hj, ⟨hjk, hij⟩, hleast⟩ := exists_least (P := fun y => y ∈ ks ∧ i < y) ⟨hxk, hi⟩
    have key : ∀ p, p ∈ ks → p < j → R p j → (∀ y ∈ ks, ¬ (p < y ∧ y < j)) → False := by
      intro p hp hpj hR hb
      obtain ⟨k, h1, rfl, rfl⟩ := of_adj K.sorted ⟨hp, hjk, hpj, hb⟩
      exact hno k h1 hR
    have hR := hall j hij hj
    by_cases hik : i ∈ ks
    · exact key i hik hij hR fun y hy hq => hleast y hq.2 ⟨hy, hq.1⟩
    · obtain ⟨p, hp, hpi, hRp, hb⟩ := K.gone i (by lia) hik
      refine key p hp (by lia) (tr _ _ _ hRp hR) fun y hy hq => ?_
      rcases Nat.lt_or_ge i y with q | q
      · exact hleast y hq.2 ⟨hy, q⟩
      · exact hb y hy ⟨hq.1, q⟩
  · intro hg
    by_cases hxk : x ∈ ks
    · exact hxk
    · exfalso
      apply hg
      obtain ⟨p, hp, hpx, hR, hb⟩ := K.gone x hx hxk
      refine ⟨p, hpx, fun k hk hkx => ?_⟩
      obtain ⟨p', hp', hpk', hR', hb'⟩ := K.gone k (by lia) fun q => hb k q ⟨hk, hkx⟩
      have : p' = p := by
        rcases Nat.lt_trichotomy p' p with q | q | q
        · exact absurd ⟨q, by lia⟩ (hb' p hp)
        · exact q
        · exact absurd ⟨q, by lia⟩ (hb p' hp')
      exact this ▸ hR'
end Mine

/-! P2j -/
set_option maxRecDepth 10000
namespace Mine
open PySem PySem.W PyProof.Rows

noncomputable def rowOf (vs : List Int) (k : Nat) : List Nat := leadOf (vs.getD k 0) ++ [97 + k] ++ tail2 (vs.getD k 0)
theorem rangeL6 : rangeL 0 6 1 = (List.range 6).map fun (k : Nat) => (k : Int) := by decide
theorem rows2_eq (vs : List Int) : rows2 vs = (List.range 6).map (rowOf vs) := by
  unfold rows2
  rw [rangeL6, List.map_map]
  rfl
theorem rowOf_free (vs : List Int) (k : Nat) : 10 ∉ rowOf vs k ∧ 1 ≤ (rowOf vs k).length := by
  constructor
  · intro h
    unfold rowOf at h
    rcases List.mem_append.mp h with h | h
    · rcases List.mem_append.mp h with h | h
      · rcases lead_signs _ _ h with q | q <;> lia
      · have := List.mem_singleton.mp h; lia
    · unfold tail2 at h
      split at h
      · cases h
      · simp at h
  · unfold rowOf; simp; lia
theorem ws_row (vs : List Int) (k : Nat) : wsOf (rowOf vs k) = wsOf (leadOf (vs.getD k 0)) := by
  unfold wsOf rowOf
  rw [List.append_assoc]
  exact wsScan_stop _ _ (by lia) _ _ (lead_signs _)
noncomputable def relB (vs : List Int) (e : Bool) (i j : Nat) : Bool := RelC e (columnsOf (leadOf (vs.getD i 0))) (columnsOf (leadOf (vs.getD j 0)))
theorem mayGo_row (vs : List Int) (e : Bool) (i j : Nat) : mayGo (wsOf (rowOf vs i)) (wsOf (rowOf vs j)) e = relB vs e i j := by
  rw [ws_row, ws_row, mayGo_rel]; rfl
theorem columns_len (l : List Nat) : (columnsOf l).length = 10 := by
  unfold columnsOf; rw [List.length_map]; decide
theorem relB_trans (vs : List Int) (e : Bool) (a b c : Nat) (h1 : relB vs e a b = true) (h2 : relB vs e b c = true) : relB vs e a c = true :=
  RelC.trans (by rw [columns_len, columns_len]) (by rw [columns_len, columns_len]) h1 h2

theorem rowAt_map (vs : List Int) (ks : List Nat) {k : Int} (_ : 0 ≤ k) (h1 : k.toNat < ks.length) : rowAt (ks.map (rowOf vs)) k = rowOf vs ks[k.toNat] := by
  unfold rowAt
  rw [List.getD_eq_getElem?_getD, List.getElem?_map, List.getElem?_eq_getElem h1]; rfl

theorem fold_run (vs : List Int) (e : Bool) : ∀ (moves : List Int) (ks : List Nat), Kept (fun a b => relB vs e a b = true) 6 ks → ks.length ≤ moves.length →
    ∃ ks', Kept (fun a b => relB vs e a b = true) 6 ks' ∧ (∀ k (h1 : k + 1 < ks'.length), ¬ relB vs e ks'[k] ks'[k + 1] = true) ∧ foldRun e (ks.map (rowOf vs)) moves = .inl (some (ks'.map (rowOf vs)))
  | [], ks, K, hl => by
    have := List.eq_nil_of_length_eq_zero (Nat.le_zero.mp hl)
    subst this
    exact absurd K.first (List.not_mem_nil)
  | m :: ms, ks, K, hl => by
    have hp : Plain (ks.map (rowOf vs)) := fun r hr => by
      obtain ⟨k, _, rfl⟩ := List.mem_map.mp hr
      exact rowOf_free vs k
    unfold foldRun
    rcases foldStep_is hp m e with ⟨h1, h2⟩ | ⟨k, hk, h2⟩
    · rw [h2]
      refine ⟨ks, K, fun k h1' hR => ?_, rfl⟩
      unfold spansOf at h1
      have h1 := List.map_eq_nil_iff.mp h1
      rw [List.filter_eq_nil_iff] at h1
      have := h1 ((k : Int) + 1) (by
        unfold rangeL
        refine List.mem_map.mpr ⟨k, List.mem_range.mpr ?_, by lia⟩
        rw [List.length_map, if_pos (by lia)]
        lia)
      rw [show (k : Int) + 1 - 1 = k by lia, rowAt_map vs ks (by lia) (by lia), rowAt_map vs ks (by lia) (by lia), mayGo_row] at this
      exact this hR
    · rw [h2]
      obtain ⟨hk1, hk2⟩ := List.mem_filter.mp hk
      have hr := mem_rangeL hk1
      rw [List.length_map] at hr
      obtain ⟨j, rfl⟩ : ∃ j : Nat, k = (j : Int) + 1 := ⟨(k - 1).toNat, by lia⟩
      have hj : j + 1 < ks.length := by lia
      rw [show (j : Int) + 1 - 1 = j by lia, rowAt_map vs ks (by lia) (by lia), rowAt_map vs ks (by lia) (by lia), mayGo_row] at hk2
      have hk2' : relB vs e ks[j] ks[j + 1] = true := hk2
      have K' := K.erase (relB_trans vs e) hj hk2'
      have hw : without (ks.map (rowOf vs)) ((j : Int) + 1) = (ks.eraseIdx (j + 1)).map (rowOf vs) := by
        unfold without
        rw [cut_take _ (by lia), cut_drop _ (by lia), List.eraseIdx_eq_take_drop_succ, List.map_append, List.map_take, List.map_drop]
        congr 1
      rw [hw]
      obtain ⟨ks', a1, a2, a3⟩ := fold_run vs e ms (ks.eraseIdx (j + 1)) K' (by
        rw [List.length_eraseIdx_of_lt hj]
        simp only [List.length_cons] at hl
        lia)
      exact ⟨ks', a1, a2, a3⟩
theorem kept_all (R : Nat → Nat → Prop) : Kept R 6 (List.range 6) :=
  ⟨by decide, fun k hk => List.mem_range.mp hk, by decide, fun x hx h => absurd (List.mem_range.mpr hx) h⟩

/-! what the columns say -/
theorem rangeL_nil {a b : Int} (h : b ≤ a) : rangeL a b 1 = [] := by
  rw [rangeL_one, Int.toNat_of_nonpos (Int.sub_nonpos_of_le h)]; rfl
theorem rangeL_cons {a b : Int} {m : Nat} (h : (b - a).toNat = m + 1) : rangeL a b 1 = a :: rangeL (a + 1) b 1 ∧ a < b ∧ (b - (a + 1)).toNat = m := by
  have h1 : a < b := by lia
  have h2 : (b - (a + 1)).toNat = m := by lia
  refine ⟨?_, h1, h2⟩
  rw [rangeL_one, rangeL_one, h, h2, List.range_succ_eq_map, List.map_cons, List.map_map]
  refine congr (congrArg List.cons (Int.add_zero a)) (List.map_congr_left fun k _ => ?_)
  show a + ((k + 1 : Nat) : Int) = a + 1 + k
  rw [Int.natCast_add, Int.add_assoc, Int.add_comm (k : Int)]; rfl
noncomputable def FarTo (cols : List (List Int)) (e : Bool) (i a N x : Int) : Prop := a ≤ x ∧ x < N ∧ ∀ y, a ≤ y → y ≤ x → fartherB (colAt cols i) (colAt cols y) e = true
theorem mem_inner (cols : List (List Int)) (e : Bool) (i N x : Int) : ∀ (m : Nat) (a : Int) (g : List Int), (N - a).toNat = m → (x ∈ innerGo cols e i (rangeL a N 1) g ↔ x ∈ g ∨ FarTo cols e i a N x)
  | 0, a, g, hm => by
    have hl : N ≤ a := Int.le_of_sub_nonpos (Int.toNat_eq_zero.mp hm)
    rw [rangeL_nil hl]
    exact ⟨.inl, fun h => h.elim id fun h => absurd (Int.lt_of_le_of_lt h.1 h.2.1) (Int.not_lt.mpr hl)⟩
  | m + 1, a, g, hm => by
    obtain ⟨h1, h2, h3⟩ := rangeL_cons hm
    rw [h1, innerGo]
    by_cases hk : fartherB (colAt cols i) (colAt cols a) e = true
    · rw [if_pos hk, mem_inner cols e i N x m (a + 1) (g ++ [a]) h3]
      constructor
      · rintro (h | h)
        · rcases List.mem_append.mp h with h | h
          · exact .inl h
          · rw [List.mem_singleton.mp h]
            exact .inr ⟨Int.le_refl _, h2, fun y p q => by rw [Int.le_antisymm q p]; exact hk⟩
        · refine .inr ⟨Int.le_of_lt h.1, h.2.1, fun y p q => ?_⟩
          rcases Int.lt_or_eq_of_le p with p | p
          · exact h.2.2 y p q
          · rw [← p]; exact hk
      · rintro (h | h)
        · exact .inl (List.mem_append.mpr (.inl h))
        · rcases Int.lt_or_eq_of_le h.1 with p | p
          · exact .inr ⟨p, h.2.1, fun y p q => h.2.2 y (Int.le_of_lt p) q⟩
          · exact .inl (List.mem_append.mpr (.inr (List.mem_singleton.mpr p.symm)))
    · rw [if_neg hk]
      exact ⟨.inl, fun h => h.elim id fun h => absurd (h.2.2 a (Int.le_refl _) h.1) hk⟩
theorem mem_goneGo (cols : List (List Int)) (e : Bool) (N x : Int) : ∀ (is g : List Int), x ∈ is.foldl (fun g i => innerGo cols e i (rangeL (i + 1) N 1) g) g ↔ x ∈ g ∨ ∃ i ∈ is, FarTo cols e i (i + 1) N x
  | [], g => by simp
  | i :: is, g => by
    rw [List.foldl_cons, mem_goneGo cols e N x is, mem_inner cols e i N x _ (i + 1) g rfl]
    constructor
    · rintro ((h | h) | ⟨j, hj, h⟩)
      · exact .inl h
      · exact .inr ⟨i, .head _, h⟩
      · exact .inr ⟨j, .tail _ hj, h⟩
    · rintro (h | ⟨j, hj, h⟩)
      · exact .inl (.inl h)
      · rcases List.mem_cons.mp hj with rfl | hj
        · exact .inl (.inr h)
        · exact .inr ⟨j, hj, h⟩
theorem mem_goneOf (vs : List Int) (hv : vs.length = 6) (e : Bool) (x : Nat) (hx : x < 6) : (x : Int) ∈ goneOf (cols2 vs) e 6 ↔ GoneBy (fun a b => relB vs e a b = true) x := by
  have hc : ∀ i : Nat, i < 6 → colAt (cols2 vs) i = columnsOf (leadOf (vs.getD i 0)) := by
    intro i hi
    unfold colAt cols2
    rw [Int.toNat_natCast, List.getD_eq_getElem?_getD, List.getElem?_map, List.getD_eq_getElem?_getD, List.getElem?_eq_getElem (by lia)]
    rfl
  have hf : ∀ i j : Nat, i < 6 → j < 6 → fartherB (colAt (cols2 vs) i) (colAt (cols2 vs) j) e = relB vs e i j := by
    intro i j hi hj
    rw [hc i hi, hc j hj, farther_rel (by rw [columns_len, columns_len])]; rfl
  unfold goneOf
  rw [mem_goneGo]
  constructor
  · rintro (h | ⟨i, hi, h1, h2, h3⟩)
    · cases h
    · obtain ⟨j, rfl⟩ := Int.eq_ofNat_of_zero_le (mem_rangeL hi).1
      have hjx : j < x := Int.ofNat_lt.mp h1
      refine ⟨j, hjx, fun k hk hkx => ?_⟩
      show relB vs e j k = true
      rw [← hf j k (Nat.lt_trans hjx hx) (Nat.lt_of_le_of_lt hkx hx)]
      exact h3 k (Int.ofNat_lt.mpr hk) (Int.ofNat_le.mpr hkx)
  · rintro ⟨i, hi, h⟩
    have hi6 := Nat.lt_trans hi hx
    refine .inr ⟨i, rangeL_mem (Int.natCast_nonneg _) (Int.ofNat_lt.mpr hi6), Int.ofNat_lt.mpr hi, Int.ofNat_lt.mpr hx, fun y h1 h2 => ?_⟩
    obtain ⟨k, rfl⟩ := Int.eq_ofNat_of_zero_le (Int.le_trans (Int.natCast_nonneg i) (Int.le_of_lt h1))
    have hkx := Int.ofNat_le.mp h2
    rw [hf i k hi6 (Nat.lt_of_le_of_lt hkx hx)]
    exact h k (Int.ofNat_lt.mp h1) hkx

theorem sorted_ext {a b : List Nat} (ha : a.Pairwise (· < ·)) (hb : b.Pairwise (· < ·)) (h : ∀ x, x ∈ a ↔ x ∈ b) : a = b :=
  List.Perm.eq_of_pairwise (le := (· < ·)) (fun x y _ _ h1 h2 => by lia) ha hb ((List.perm_ext_iff_of_nodup (ha.imp Nat.ne_of_lt) (hb.imp Nat.ne_of_lt)).mpr h)

theorem plain_one (vs : List Int) (hv : vs.length = 6) (moves : List Int) (hm : moves.length = 6) (e : Bool) : foldOf (rows2 vs) moves e = some (leftOf (rows2 vs) (cols2 vs) e) := by
  obtain ⟨ks, K, hno, hr⟩ := fold_run vs e moves (List.range 6) (kept_all _) (by rw [hm]; decide)
  have hk : ks = (List.range 6).filter fun (j : Nat) => decide ((j : Int) ∉ goneOf (cols2 vs) e 6) := by
    refine sorted_ext K.sorted (List.Pairwise.sublist List.filter_sublist (by decide)) fun x => ?_
    rw [List.mem_filter, List.mem_range, decide_eq_true_eq]
    constructor
    · intro hx
      have := K.lt x hx
      exact ⟨this, fun q => (K.end (relB_trans vs e) hno x this).mp hx ((mem_goneOf vs hv e x this).mp q)⟩
    · rintro ⟨h1, h2⟩
      exact (K.end (relB_trans vs e) hno x h1).mpr fun q => h2 ((mem_goneOf vs hv e x h1).mpr q)
  unfold foldOf
  rw [rows2_eq, hr]
  dsimp only
  congr 1
  unfold leftOf
  rw [List.length_map, List.length_range]
  show _ = ((rangeL 0 6 1).filter _).map _
  rw [rangeL6, List.filter_map, List.map_map, hk]
  apply List.map_congr_left
  intro x hx
  have := List.mem_range.mp (List.mem_filter.mp hx).1
  show _ = List.getD _ (Int.toNat (x : Int)) []
  rw [Int.toNat_natCast, List.getD_eq_getElem?_getD, List.getElem?_map, List.getElem?_range this]; rfl

theorem values2_len (xs : List Int) : (values2 xs).length = 6 := by unfold values2; rw [List.length_map]; decide
theorem six_len (a b : List Int) (hb : b.length = 6) : (cut (a ++ b) none (some 6)).length = 6 := by
  rw [cut_take _ (by decide), List.length_take, List.length_append, hb]
  exact Nat.min_eq_left (Nat.le_add_left _ _)
theorem plain2 (xs : List Int) : foldOf (rows2 (values2 xs)) (firsts2 xs) false = some (leftOf (rows2 (values2 xs)) (cols2 (values2 xs)) false) ∧
    foldOf (rows2 (values2 xs)) (lasts2 xs) true = some (leftOf (rows2 (values2 xs)) (cols2 (values2 xs)) true) :=
  ⟨plain_one _ (values2_len xs) _ (by unfold firsts2; rw [List.length_map]; exact six_len _ _ rfl) _, plain_one _ (values2_len xs) _ (by unfold lasts2; rw [List.length_map]; exact six_len _ _ rfl) _⟩
end Mine

/-! Top02 -/
open PySem PySem.W PyProof.Rows
namespace Mine
set_option maxRecDepth 100000 in
set_option maxHeartbeats 8000000 in
open_top hd for PySem.Challenge.rw_mr0221_02
end Mine

/-! F2a -/
set_option maxRecDepth 10000
namespace Mine
open PySem PySem.W PyProof.Rows

section
variable {C : Cx} {P : Params} {mg : Str → Option Value} (L : LawG C (hd.heap_39 P) mg) {n : Nat}
include L

set_option maxHeartbeats 4000000 in
theorem lead_def : DefOk C 108 (fnAt (hd.heap_39 P) 108) (bodyOf (fnAt (hd.heap_39 P) 108)) ["value"] ⟨(fnAt (hd.heap_39 P) 108).scope, ["value", "parts"], []⟩ :=
  L.def_ (by kernel_rfl) (by kernel_rfl) (bind_1 fun a => by kernel_rfl)

set_option maxHeartbeats 4000000 in
theorem lead_ex (v : Int) : Ex C ⟨(fnAt (hd.heap_39 P) 108).scope, ["value", "parts"], []⟩ n [.val (vInt v), .un] (bodyOf (fnAt (hd.heap_39 P) 108)) (.ret (vS (leadOf v))) := by
  rw [show fnAt (hd.heap_39 P) 108 = FuncData.mk _ _ _ _ _ _ _ _ _ _ _ _ _ _ _ from rfl]
  dsimp only [bodyOf]
  have part_at : ∀ k : Int, 0 ≤ k → k < 4 → [vS [], vS [32], vS [9], vS [32, 32, 32]][k.toNat]? = some (vS (part k)) := by
    intro k h0 h1
    have : k = 0 ∨ k = 1 ∨ k = 2 ∨ k = 3 := by lia
    rcases this with rfl | rfl | rfl | rfl <;> rfl
  have item : ∀ k : Int, SubG C (vLst [vS [], vS [32], vS [9], vS [32, 32, 32]]) (vInt (k % 4)) (vS (part (k % 4))) := fun k =>
    SubG.item (by lia) (by lia) (part_at _ (by lia) (by lia))
  refine Ex.cons (Ex1.assign 1 rfl (by decide) rfl (EvL.ev (EvL.list (.cons (Ev.s [] rfl) (.cons (Ev.s [32] rfl) (.cons (Ev.s [9] rfl) (.cons (Ev.s [32, 32, 32] rfl) .nil))))))) ?_
  refine Ex.one (Ex1.ret ?_)
  have h4 : (0 : Int) < 4 := by decide
  exact Ev.bin (Ev.bin (Ev.sub (Ev.name 1 rfl rfl) (Ev.bin (Ev.name 0 rfl rfl) Ev.int (BinG.mod h4)) (item _))
    (Ev.sub (Ev.name 1 rfl rfl) (Ev.bin (Ev.bin (Ev.name 0 rfl rfl) Ev.int (BinG.div h4 (by decide))) Ev.int (BinG.mod h4)) (item _)) (BinG.addS (by have := part_len (v % 4); have := part_len (v / 4 % 4); rw [sizeLine_eq]; lia)))
    (Ev.sub (Ev.name 1 rfl rfl) (Ev.bin (Ev.bin (Ev.name 0 rfl rfl) Ev.int (BinG.div (by decide) (by decide))) Ev.int (BinG.mod h4)) (item _))
    (BinG.addS (by have := part_len (v % 4); have := part_len (v / 4 % 4); have := part_len (v / 16 % 4); rw [List.length_append, sizeLine_eq]; lia))

theorem lead_fn (v : Int) : FnG C (n + 1) (.ref 108) [vInt v] (vS (leadOf v)) := FnG.top (lead_def L) rfl (lead_ex L v) (.ret _)

end
end Mine

/-! F2b -/
set_option maxRecDepth 10000
namespace Mine
open PySem PySem.W PyProof.Rows

section
variable {C : Cx} {P : Params} {mg : Str → Option Value} (L : LawG C (hd.heap_39 P) mg) {n : Nat}
include L

noncomputable abbrev vWs (l : List Nat) : VP := vObj 83 (wsAttrs l (wsOf l))

set_option maxHeartbeats 4000000 in
theorem init_def : DefOk C 38 (fnAt (hd.heap_39 P) 38) (bodyOf (fnAt (hd.heap_39 P) 38)) ["self", "ws"] ⟨(fnAt (hd.heap_39 P) 38).scope, ["self", "ws", "S", "T", "count", "b", "n", "nt", "ch"], []⟩ :=
  L.def_ (by kernel_rfl) (by kernel_rfl) (bind_2 fun a b => by kernel_rfl)

theorem g_len : GlobIs C "len" (.builtin "len") := L.bi (by kernel_rfl) (by decide +kernel) (by decide)
theorem g_tuple : GlobIs C "tuple" (.type "tuple") := L.bi (by kernel_rfl) (by decide +kernel) (by decide)
theorem g_ws : GlobIs C "Whitespace" (.ref 83) := L.fn (by kernel_rfl)

noncomputable def initSlots (x : Addr) (l : List Nat) (w : WsS) (ch : Slot) : List Slot :=
  [.val (vIs (.ref x)), .val (vS l), .val (vS [32]), .val (vS [9]), .own (w.count.map vInt), .val (vInt w.b), .val (vInt w.n), .val (vInt w.nt), ch]

set_option maxHeartbeats 8000000 in
theorem init_ex (x : Addr) (l : List Nat) (hl : l.length ≤ 1000) : ExI C ⟨(fnAt (hd.heap_39 P) 38).scope, ["self", "ws", "S", "T", "count", "b", "n", "nt", "ch"], []⟩ n 83 x
    [.val (vIs (.ref x)), .val (vS l), .un, .un, .un, .un, .un, .un, .un] [] (bodyOf (fnAt (hd.heap_39 P) 38)) (wsAttrs l (wsOf l)) := by
  have hset : findIn (hd.heap_39 P) (.ref 83) "__setattr__" = some (some (.builtin "object.__setattr__")) := by kernel_rfl
  have hov : plainOver (hd.heap_39 P) 83 = true := by kernel_rfl
  have hhd : hasDictIn (hd.heap_39 P) 83 = true := by kernel_rfl
  rw [show fnAt (hd.heap_39 P) 38 = FuncData.mk _ _ _ _ _ _ _ _ _ _ _ _ _ _ _ from rfl]
  dsimp only [bodyOf]
  have hnd : (["self", "ws", "S", "T", "count", "b", "n", "nt", "ch"] : List Str).Nodup := by decide
  refine ExI.set 0 rfl rfl (Ev.name 1 rfl rfl) L.X hset hov (by kernel_rfl) hhd rfl (by decide) ?_
  refine ExI.cons (Ex1.assignSwap 2 3 rfl rfl hnd rfl rfl (Ev.tuple (.cons (Ev.clsTxt (l := [32]) (Ev.glob (g_ws L) rfl) L.X (by kernel_rfl) (by kernel_rfl)) (.cons (Ev.clsTxt (l := [9]) (Ev.glob (g_ws L) rfl) L.X (by kernel_rfl) (by kernel_rfl)) .nil))) (hw := fun env he => by obtain ⟨sc, _, _, _, _, _, _⟩ := env; dsimp only at he; subst he; kernel_rfl)) ?_
  refine ExI.cons (Ex1.assignOwn 4 rfl hnd rfl (EvL.list .nil)) ?_
  refine ExI.cons (Ex1.assign3 5 6 7 rfl rfl rfl hnd rfl rfl rfl Ev.int) ?_
  refine ExI.for_ (attr := none) 0 rfl rfl L.X (by kernel_rfl) hhd (by kernel_rfl) (by kernel_rfl) rfl handed_s iter_text
    (Turns.run (fun c => vS [c]) (fun st : WsS × Slot => initSlots x l st.1 st.2) (fun st c => initSlots x l st.1 (.val (vS [c]))) (fun st r => 0 ≤ st.1.b ∧ st.1.b + r.length ≤ 1000 ∧ st.1.count.length ≤ 1001)
      (fun st r => .next (initSlots x l (wsScan r st.1) (wsCh r st.2))) (fun st c => Asg.name 8 rfl hnd rfl) (fun st _ => rfl) ?_ l (⟨[], 0, 0, 0⟩, .un) ⟨by decide, by simp; lia, by simp⟩) ?_
  · rintro ⟨⟨count, b, m, nt⟩, s0⟩ c r ⟨h0, h1, h2⟩
    dsimp only at h0 h1 h2
    by_cases h32 : c = 32
    · subst h32
      refine .inl ⟨(⟨count, b + 1, m + 1, nt⟩, .val (vS [32])), ?_, ⟨by dsimp only; lia, by dsimp only; simp at h1 ⊢; lia, h2⟩, by simp [wsScan, wsCh]⟩
      refine Ex.one (Ex1.iff (c := true) ((EvB.cmp (Ev.name 8 rfl rfl) (Ev.name 2 rfl rfl) CmpG.eqS).conv (by decide)) (fun _ => ?_) (fun h => nomatch h))
      exact Ex.cons (Ex1.assign 6 rfl hnd rfl (Ev.bin (Ev.name 6 rfl rfl) Ev.int BinG.add)) (Ex.one (Ex1.assign 5 rfl hnd rfl (Ev.bin (Ev.name 5 rfl rfl) Ev.int BinG.add)))
    · have n32 : decide ([c] = [32]) = false := by simpa using h32
      by_cases h9 : c = 9
      · subst h9
        refine .inl ⟨(⟨bump count b, 0, m + 1, nt + 1⟩, .val (vS [9])), ?_, ⟨by dsimp only; lia, by dsimp only; simp at h1 ⊢; lia, by have := bump_length (count := count) h0; dsimp only; simp at h1; lia⟩, by simp [wsScan, wsCh]⟩
        refine Ex.one (Ex1.iff (c := false) ((EvB.cmp (Ev.name 8 rfl rfl) (Ev.name 2 rfl rfl) CmpG.eqS).conv (by decide)) (fun h => nomatch h) (fun _ => ?_))
        refine Ex.one (Ex1.iff (c := true) ((EvB.cmp (Ev.name 8 rfl rfl) (Ev.name 3 rfl rfl) CmpG.eqS).conv (by decide)) (fun _ => ?_) (fun h => nomatch h))
        refine Ex.cons (Ex1.assign 6 rfl hnd rfl (Ev.bin (Ev.name 6 rfl rfl) Ev.int BinG.add)) (Ex.cons (Ex1.assign 7 rfl hnd rfl (Ev.bin (Ev.name 7 rfl rfl) Ev.int BinG.add)) ?_)
        have hlen : (count.map vInt).length = count.length := List.length_map ..
        have hsz : (count.map vInt).length ≤ sizeLine := by rw [hlen, sizeLine_eq]; lia
        refine Ex.cons (vals' := initSlots x l ⟨bump0 count b, b, m + 1, nt + 1⟩ (.val (vS [9]))) (Ex1.iff (EvB.cmp (Ev.name 5 rfl rfl) (Ev.borrow 4 rfl rfl (scalar_int _) (Ev.call (Ev.glob (g_len L) rfl) (KeepOk.builtin _) (.cons (Ev.name 4 rfl rfl) .nil) (FnG.lenL hsz))) CmpG.ge) (fun hc => ?_) (fun hc => ?_)) ?_
        · have hc : b ≥ count.length := by simpa using hc
          refine Ex.one ((Ex1.assignOwn 4 rfl hnd rfl (EvL.borrow 4 rfl rfl ?_ (EvL.add (Ev.name 4 rfl rfl) (EvL.ev (EvL.mul (EvL.ev (EvL.list (.cons Ev.int .nil))) (Ev.bin (Ev.bin (Ev.name 5 rfl rfl) (Ev.call (Ev.glob (g_len L) rfl) (KeepOk.builtin _) (.cons (Ev.name 4 rfl rfl) .nil) (FnG.lenL hsz)) BinG.sub) Ev.int BinG.add) ?_ ?_)) ?_))).conv ?_)
          · intro p hp
            rcases List.mem_append.mp hp with hp | hp
            · obtain ⟨k, _, rfl⟩ := List.mem_map.mp hp; exact scalar_int _
            · rw [List.eq_of_mem_replicate hp]; exact scalar_int _
          · dsimp only; rw [hlen]; simp at h1; lia
          · dsimp only; rw [hlen]; lia
          · dsimp only; rw [List.length_replicate, hlen, sizeLine_eq]; simp at h1; lia
          · rw [show bump0 count b = _ from if_pos hc, hlen]; simp [initSlots]
        · have hc : ¬ b ≥ count.length := by simpa using hc
          exact Ex.nil.conv (by rw [show bump0 count b = count from if_neg hc]; rfl)
        · have hb0 := bump0_length (count := count) h0
          have hg : (bump0 count b)[b.toNat]? = some ((bump0 count b).getD b.toNat 0) := by
            rw [List.getD_eq_getElem?_getD, List.getElem?_eq_getElem hb0.1]; rfl
          refine Ex.cons ((Ex1.setItem 4 rfl rfl (Ev.bin (Ev.ownItem (p := vInt ((bump0 count b).getD b.toNat 0)) 4 rfl rfl (Ev.name 5 rfl rfl) h0 (by simp at h1; lia) (by show (List.map vInt (bump0 count b))[b.toNat]? = _; rw [List.getElem?_map, hg]; rfl)) Ev.int BinG.add) (Ev.name 5 rfl rfl) h0 (by simp at h1; lia) (by show b < ((List.map vInt (bump0 count b)).length : Int); rw [List.length_map]; lia)).conv (o' := .next (initSlots x l ⟨bump count b, b, m + 1, nt + 1⟩ (.val (vS [9])))) ?_) ?_
          · simp [initSlots, bump, List.map_set]
          · exact Ex.one (Ex1.assign 5 rfl hnd rfl Ev.int)
      · have n9 : decide ([c] = [9]) = false := by simpa using h9
        refine .inr (.inl ⟨initSlots x l ⟨count, b, m, nt⟩ (.val (vS [c])), ?_, by simp [wsScan, wsCh, h32, h9]⟩)
        refine Ex.one (Ex1.iff (c := false) ((EvB.cmp (Ev.name 8 rfl rfl) (Ev.name 2 rfl rfl) CmpG.eqS).conv n32) (fun h => nomatch h) (fun _ => ?_))
        refine Ex.one (Ex1.iff (c := false) ((EvB.cmp (Ev.name 8 rfl rfl) (Ev.name 3 rfl rfl) CmpG.eqS).conv n9) (fun h => nomatch h) (fun _ => ?_))
        exact Ex.one Ex1.brk
  · refine ExI.set 0 rfl rfl (Ev.name 6 rfl rfl) L.X hset hov (by kernel_rfl) hhd rfl (by simp) ?_
    refine ExI.set 0 rfl rfl (Ev.name 7 rfl rfl) L.X hset hov (by kernel_rfl) hhd rfl (by simp) ?_
    refine ExI.freeze 4 rfl rfl ?_
    have hlen : ((wsOf l).count.map vInt).length = (wsOf l).count.length := List.length_map ..
    have hle : (wsOf l).count.length ≤ 1001 := wsOf_length hl
    have hsz : ((wsOf l).count.map vInt).length ≤ sizeLine := by rw [hlen, sizeLine_eq]; lia
    refine ExI.set 0 rfl rfl (p := normP (wsOf l)) (Ev.tuple (.cons (Ev.call (Ev.glob (g_tuple L) rfl) (KeepOk.type _) (.cons (Ev.name 4 rfl rfl) .nil) (FnG.tupleOf hsz)) (.cons (Ev.name 5 rfl rfl) .nil))) L.X hset hov (by kernel_rfl) hhd rfl (by simp) ?_
    refine ExI.set 0 rfl rfl (p := vBool (decide (((wsOf l).count.length : Int) ≤ 1))) ((Ev.cmp (Ev.call (Ev.glob (g_len L) rfl) (KeepOk.builtin _) (.cons (Ev.name 4 rfl rfl) .nil) (FnG.lenL hsz)) Ev.int CmpG.le).conv (by rw [hlen])) L.X hset hov (by kernel_rfl) hhd rfl (by simp) ?_
    exact ExI.nil

theorem make_ws (l : List Nat) (hl : l.length ≤ 1000) : FnG C (n + 2) (.ref 83) [vS l] (vWs l) :=
  FnG.make L.X (by kernel_rfl) (by kernel_rfl) (by kernel_rfl) (init_def L) rfl fun x => init_ex L x l hl

end
end Mine

/-! F2c -/
set_option maxRecDepth 10000
namespace Mine
open PySem PySem.W PyProof.Rows

section
variable {C : Cx} {P : Params} {mg : Str → Option Value} (L : LawG C (hd.heap_39 P) mg) {n : Nat}
include L

theorem g_max : GlobIs C "max" (.builtin "max") := L.bi (by kernel_rfl) (by decide +kernel) (by decide)
theorem g_range : GlobIs C "range" (.type "range") := L.bi (by kernel_rfl) (by decide +kernel) (by decide)

theorem ws_norm {fr : Shape} {vals : List Slot} {e : Expr} {pos : Pos} {l : List Nat} {w : WsS} (h : Ev C fr n vals e (vObj 83 (wsAttrs l w))) (hb : ∀ env, attributeBase e "norm" env (eval e env) = eval e env) : Ev C fr n vals (.Attribute e "norm" pos) (normP w) :=
  Ev.attr (attr := none) h L.X (by kernel_rfl) (by kernel_rfl) (by kernel_rfl) rfl rfl handed_tup hb
theorem ws_n {fr : Shape} {vals : List Slot} {e : Expr} {pos : Pos} {l : List Nat} {w : WsS} (h : Ev C fr n vals e (vObj 83 (wsAttrs l w))) (hb : ∀ env, attributeBase e "n" env (eval e env) = eval e env) : Ev C fr n vals (.Attribute e "n" pos) (vInt w.n) :=
  Ev.attr (attr := none) h L.X (by kernel_rfl) (by kernel_rfl) (by kernel_rfl) rfl rfl handed_int hb
theorem ws_nt {fr : Shape} {vals : List Slot} {e : Expr} {pos : Pos} {l : List Nat} {w : WsS} (h : Ev C fr n vals e (vObj 83 (wsAttrs l w))) (hb : ∀ env, attributeBase e "nt" env (eval e env) = eval e env) : Ev C fr n vals (.Attribute e "nt" pos) (vInt w.nt) :=
  Ev.attr (attr := none) h L.X (by kernel_rfl) (by kernel_rfl) (by kernel_rfl) rfl rfl handed_int hb
theorem ws_simple {fr : Shape} {vals : List Slot} {e : Expr} {pos : Pos} {l : List Nat} {w : WsS} (h : Ev C fr n vals e (vObj 83 (wsAttrs l w))) (hb : ∀ env, attributeBase e "is_simple" env (eval e env) = eval e env) : Ev C fr n vals (.Attribute e "is_simple" pos) (vBool (decide ((w.count.length : Int) ≤ 1))) :=
  Ev.attr (attr := none) h L.X (by kernel_rfl) (by kernel_rfl) (by kernel_rfl) rfl rfl handed_bool hb

set_option maxHeartbeats 4000000 in
theorem run_fn (l : List Nat) (w : WsS) (hw : w.small) : FnG C (n + 1) (.ref 45) [vObj 83 (wsAttrs l w)] (vInt (runOf w)) := by
  refine FnG.top (L.def_ (xs := ["self"]) (names := ["self", "count", "trailing"]) (cells := []) (by kernel_rfl) (by kernel_rfl) (bind_1 fun a => by kernel_rfl)) rfl ?_ (.ret _)
  rw [show fnAt (hd.heap_39 P) 45 = FuncData.mk _ _ _ _ _ _ _ _ _ _ _ _ _ _ _ from rfl]
  dsimp only [bodyOf, startVals, List.map, List.append, List.replicate, List.length]
  have hlen : (w.count.map vInt).length = w.count.length := List.length_map ..
  have hsz : (w.count.map vInt).length ≤ sizeLine := by have := hw.1; rw [hlen, sizeLine_eq]; lia
  refine Ex.cons (Ex1.assignTuple (ws_norm L (Ev.name 0 rfl rfl) (fun _ => rfl)) (Names.cons 1 rfl rfl (Names.cons 2 rfl rfl Names.nil)) (by decide)) ?_
  exact Ex.one (Ex1.ret ((Ev.call (Ev.glob (g_max L) rfl) (KeepOk.builtin _) (.cons (Ev.bin (Ev.call (Ev.glob (g_len L) rfl) (KeepOk.builtin _) (.cons (Ev.name 1 rfl rfl) .nil) (FnG.lenT hsz)) Ev.int BinG.sub) (.cons (Ev.name 2 rfl rfl) .nil)) FnG.max2).conv (by rw [hlen]; rfl)))

set_option maxHeartbeats 4000000 in
theorem level_fn (l : List Nat) (w : WsS) (hw : w.small) (ts : Int) (h1 : 1 ≤ ts) (h2 : ts ≤ 5000) : FnG C (n + 1) (.ref 52) [vObj 83 (wsAttrs l w), vInt ts] (vInt (levelOf w ts)) := by
  refine FnG.top (L.def_ (xs := ["self", "tabsize"]) (names := ["self", "tabsize", "count", "trailing", "il", "i"]) (cells := []) (by kernel_rfl) (by kernel_rfl) (bind_2 fun a b => by kernel_rfl)) rfl ?_ (.ret _)
  rw [show fnAt (hd.heap_39 P) 52 = FuncData.mk _ _ _ _ _ _ _ _ _ _ _ _ _ _ _ from rfl]
  dsimp only [bodyOf, startVals, List.map, List.append, List.replicate, List.length]
  have hlen : (w.count.map vInt).length = w.count.length := List.length_map ..
  have hc := hw.1
  have hsz : (w.count.map vInt).length ≤ sizeLine := by rw [hlen, sizeLine_eq]; lia
  have hnd : (["self", "tabsize", "count", "trailing", "il", "i"] : List Str).Nodup := by decide
  refine Ex.cons (Ex1.assignTuple (ws_norm L (Ev.name 0 rfl rfl) (fun _ => rfl)) (Names.cons 2 rfl rfl (Names.cons 3 rfl rfl Names.nil)) hnd) ?_
  refine Ex.cons (Ex1.assign 4 rfl hnd rfl Ev.int) ?_
  refine Ex.cons (Ex1.for_ (Ev.call (Ev.glob (g_range L) rfl) (KeepOk.type _) (.cons (Ev.name 1 rfl rfl) (.cons (Ev.call (Ev.glob (g_len L) rfl) (KeepOk.builtin _) (.cons (Ev.name 2 rfl rfl) .nil) (FnG.lenT hsz)) .nil)) FnG.range2)
    (IterG.range (by decide) (by lia) (by rw [hlen]; lia) (by decide))
    (Turns.fold vInt (fun st : Int × Slot => [.val (vObj 83 (wsAttrs l w)), .val (vInt ts), .val (vTup (w.count.map vInt)), .val (vInt w.b), .val (vInt st.1), st.2]) (fun st i => [.val (vObj 83 (wsAttrs l w)), .val (vInt ts), .val (vTup (w.count.map vInt)), .val (vInt w.b), .val (vInt st.1), .val (vInt i)])
      (fun _ r => ∀ i ∈ r, ts ≤ i ∧ i < w.count.length) (fun st i => (st.1 + i / ts * w.count.getD i.toNat 0, .val (vInt i))) (fun st i => Asg.name 5 rfl hnd rfl) ?_ _ (0, .un) ?_)) ?_
  · intro st i r hi
    obtain ⟨a1, a2⟩ := hi i (.head _)
    refine ⟨Ex.one (Ex1.assign 4 rfl hnd rfl (Ev.bin (Ev.name 4 rfl rfl) (Ev.bin (Ev.bin (Ev.name 5 rfl rfl) (Ev.name 1 rfl rfl) (BinG.div (by lia) (by lia)))
      (Ev.sub (r := vInt (w.count.getD i.toNat 0)) (Ev.name 2 rfl rfl) (Ev.name 5 rfl rfl) (SubG.tup (by lia) (by lia) ?_)) (BinG.mul ?_)) BinG.add)), fun j hj => hi j (.tail _ hj)⟩
    · rw [List.getElem?_map, List.getElem?_eq_getElem (by lia), List.getD_eq_getElem?_getD, List.getElem?_eq_getElem (by lia)]; rfl
    · have q : 0 ≤ i / ts := Int.ediv_nonneg (by lia) (by lia)
      have q2 : i / ts ≤ i := Int.ediv_le_self _ (by lia)
      lia
  · intro i hi
    have := mem_rangeL hi
    rw [hlen] at this; exact this
  · refine Ex.one (Ex1.ret ((Ev.bin (Ev.name 3 rfl rfl) (Ev.bin (Ev.name 1 rfl rfl) (Ev.bin (Ev.name 4 rfl rfl) (ws_nt L (Ev.name 0 rfl rfl) (fun _ => rfl)) BinG.add) (BinG.mul (by lia))) BinG.add).conv ?_))
    congr 1
    unfold levelOf levelSum
    have key : ∀ (r : List Int) (st : Int × Slot), (r.foldl (fun (st : Int × Slot) i => (st.1 + i / ts * w.count.getD i.toNat 0, Slot.val (vInt i))) st).1 = r.foldl (fun il i => il + i / ts * w.count.getD i.toNat 0) st.1 := by
      intro r
      induction r with
      | nil => intro st; rfl
      | cons i r ih => intro st; exact ih _
    rw [key, hlen]

set_option maxHeartbeats 4000000 in
theorem equal_fn (l l' : List Nat) (w v : WsS) : FnG C (n + 1) (.ref 59) [vObj 83 (wsAttrs l w), vObj 83 (wsAttrs l' v)] (vBool (equalB w v)) := by
  refine FnG.top (L.def_ (xs := ["self", "other"]) (names := ["self", "other"]) (cells := []) (by kernel_rfl) (by kernel_rfl) (bind_2 fun a b => by kernel_rfl)) rfl ?_ (.ret _)
  rw [show fnAt (hd.heap_39 P) 59 = FuncData.mk _ _ _ _ _ _ _ _ _ _ _ _ _ _ _ from rfl]
  dsimp only [bodyOf, startVals, List.map, List.append, List.replicate, List.length]
  exact Ex.one (Ex1.ret (Ev.cmp (ws_norm L (Ev.name 0 rfl rfl) (fun _ => rfl)) (ws_norm L (Ev.name 1 rfl rfl) (fun _ => rfl)) (CmpG.eqD (reads_norm w) (reads_norm v) (shaped_norm w) (shaped_norm v))))

set_option maxHeartbeats 4000000 in
theorem less_fn (l l' : List Nat) (w v : WsS) (hw : w.small) (hv : v.small) : FnG C (n + 2) (.ref 73) [vObj 83 (wsAttrs l w), vObj 83 (wsAttrs l' v)] (vBool (lessB w v)) := by
  refine FnG.top (L.def_ (xs := ["self", "other"]) (names := ["self", "other", "n", "ts"]) (cells := []) (by kernel_rfl) (by kernel_rfl) (bind_2 fun a b => by kernel_rfl)) rfl (o := .ret (vBool (lessB w v))) ?_ (.ret _)
  rw [show fnAt (hd.heap_39 P) 73 = FuncData.mk _ _ _ _ _ _ _ _ _ _ _ _ _ _ _ from rfl]
  dsimp only [bodyOf, startVals, List.map, List.append, List.replicate, List.length]
  have hnd : (["self", "other", "n", "ts"] : List Str).Nodup := by decide
  have hrun : ∀ {fr : Shape} {vals : List Slot} {e : Expr} {ap cp : Pos} {l : List Nat} {w : WsS}, w.small → Ev C fr (n + 1) vals e (vObj 83 (wsAttrs l w)) → (∀ env, attributeBase e "longest_run_of_spaces" env (eval e env) = eval e env) → (ap.endLine == cp.line) = true →
      Ev C fr (n + 1) vals (.Call (.Attribute e "longest_run_of_spaces" ap) [] [] cp) (vInt (runOf w)) := fun hw h hb hl =>
    Ev.methObj h L.X (by kernel_rfl) (by kernel_rfl) (by kernel_rfl) rfl (L.keep (by kernel_rfl)) .nil (run_fn L _ _ hw) hb (by decide) hl
  have hlev : ∀ {fr : Shape} {vals : List Slot} {e a : Expr} {ap cp : Pos} {l : List Nat} {w : WsS} {ts : Int}, w.small → 1 ≤ ts → ts ≤ 5000 → Ev C fr (n + 1) vals e (vObj 83 (wsAttrs l w)) → EvArgs C fr (n + 1) vals [a] [vInt ts] → (∀ env, attributeBase e "indent_level" env (eval e env) = eval e env) → (ap.endLine == cp.line) = true →
      Ev C fr (n + 1) vals (.Call (.Attribute e "indent_level" ap) [a] [] cp) (vInt (levelOf w ts)) := fun hw h1 h2 h ha hb hl =>
    Ev.methObj h L.X (by kernel_rfl) (by kernel_rfl) (by kernel_rfl) rfl (L.keep (by kernel_rfl)) ha (level_fn L _ _ hw _ h1 h2) hb (by simp) hl
  by_cases hn : w.n ≥ v.n
  · have e : lessB w v = false := if_pos hn
    rw [e]
    exact Ex.stop (Ex1.iff (c := true) ((EvB.cmp (ws_n L (Ev.name 0 rfl rfl) (fun _ => rfl)) (ws_n L (Ev.name 1 rfl rfl) (fun _ => rfl)) CmpG.ge).conv (decide_eq_true hn)) (fun _ => Ex.one (Ex1.ret Ev.bool)) (fun h => nomatch h)) (fun _ => Out.noConfusion)
  · refine Ex.cons (Ex1.iff (c := false) ((EvB.cmp (ws_n L (Ev.name 0 rfl rfl) (fun _ => rfl)) (ws_n L (Ev.name 1 rfl rfl) (fun _ => rfl)) CmpG.ge).conv (decide_eq_false hn)) (fun h => nomatch h) (fun _ => Ex.nil)) ?_
    have e0 : lessB w v = if (decide ((w.count.length : Int) ≤ 1) && decide ((v.count.length : Int) ≤ 1)) = true then decide (w.nt ≤ v.nt)
        else (rangeL 2 (max (runOf w) (runOf v) + 1 + 1) 1).all fun ts => !decide (levelOf w ts ≥ levelOf v ts) := if_neg hn
    cases hs : (decide ((w.count.length : Int) ≤ 1) && decide ((v.count.length : Int) ≤ 1)) with
    | true =>
      rw [e0, if_pos hs]
      refine Ex.stop (Ex1.iff (c := true) ((EvB.bool (EvAll.and_cons (EvB.value (ws_simple L (Ev.name 0 rfl rfl) (fun _ => rfl)) (TruG.bool _)) fun _ => EvAll.and_cons (EvB.value (ws_simple L (Ev.name 1 rfl rfl) (fun _ => rfl)) (TruG.bool _)) fun _ => EvAll.and_nil)).conv (by rw [Bool.and_true]; exact hs)) (fun _ => ?_) (fun h => nomatch h)) (fun _ => Out.noConfusion)
      exact Ex.one (Ex1.ret (Ev.cmp (ws_nt L (Ev.name 0 rfl rfl) (fun _ => rfl)) (ws_nt L (Ev.name 1 rfl rfl) (fun _ => rfl)) CmpG.le))
    | false =>
      rw [e0, if_neg (by rw [hs]; decide)]
      refine Ex.cons (Ex1.iff (c := false) ((EvB.bool (EvAll.and_cons (EvB.value (ws_simple L (Ev.name 0 rfl rfl) (fun _ => rfl)) (TruG.bool _)) fun _ => EvAll.and_cons (EvB.value (ws_simple L (Ev.name 1 rfl rfl) (fun _ => rfl)) (TruG.bool _)) fun _ => EvAll.and_nil)).conv (by rw [Bool.and_true]; exact hs)) (fun h => nomatch h) (fun _ => Ex.nil)) ?_
      refine Ex.cons (Ex1.assign 2 rfl hnd rfl (Ev.bin (Ev.call (Ev.glob (g_max L) rfl) (KeepOk.builtin _) (.cons (hrun hw (Ev.name 0 rfl rfl) (fun _ => rfl) rfl) (.cons (hrun hv (Ev.name 1 rfl rfl) (fun _ => rfl) rfl) .nil)) FnG.max2) Ev.int BinG.add)) ?_
      have hb : -(2 ^ 40) ≤ max (runOf w) (runOf v) + 1 + 1 ∧ max (runOf w) (runOf v) + 1 + 1 ≤ 5000 := by
        have r1 := hw.run
        have r2 := hv.run
        exact ⟨Int.le_trans (by decide) (Int.add_le_add_right (Int.add_le_add_right (Int.le_trans r1.1 (Int.le_max_left _ _)) 1) 1), Int.le_trans (Int.add_le_add_right (Int.add_le_add_right (Int.max_le.mpr ⟨r1.2, r2.2⟩) 1) 1) (by decide)⟩
      cases ha : (rangeL 2 (max (runOf w) (runOf v) + 1 + 1) 1).all fun ts => !decide (levelOf w ts ≥ levelOf v ts) with
      | true =>
        have ha' := List.all_eq_true.mp ha
        refine Ex.cons (Ex1.for_ (Ev.call (Ev.glob (g_range L) rfl) (KeepOk.type _) (.cons Ev.int (.cons (Ev.bin (Ev.name 2 rfl rfl) Ev.int BinG.add) .nil)) FnG.range2) (IterG.range (by decide) (by decide) (by lia) (by decide))
          (Turns.fold vInt (fun st : Slot => [.val (vObj 83 (wsAttrs l w)), .val (vObj 83 (wsAttrs l' v)), .val (vInt (max (runOf w) (runOf v) + 1)), st]) (fun _ ts => [.val (vObj 83 (wsAttrs l w)), .val (vObj 83 (wsAttrs l' v)), .val (vInt (max (runOf w) (runOf v) + 1)), .val (vInt ts)])
            (fun _ r => ∀ ts ∈ r, 2 ≤ ts ∧ ts ≤ 5000 ∧ (!decide (levelOf w ts ≥ levelOf v ts)) = true) (fun _ ts => .val (vInt ts)) (fun _ _ => Asg.name 3 rfl hnd rfl) (fun st ts r hi => ?_) _ .un (fun ts hts => ?_))) (Ex.one (Ex1.ret Ev.bool))
        · obtain ⟨a1, a2, a3⟩ := hi ts (.head _)
          refine ⟨Ex.one (Ex1.iff (c := false) ((EvB.cmp (hlev hw (by lia) a2 (Ev.name 0 rfl rfl) (.cons (Ev.name 3 rfl rfl) .nil) (fun _ => rfl) rfl) (hlev hv (by lia) a2 (Ev.name 1 rfl rfl) (.cons (Ev.name 3 rfl rfl) .nil) (fun _ => rfl) rfl) CmpG.ge).conv (by simpa using a3)) (fun h => nomatch h) (fun _ => Ex.nil)), fun t ht => hi t (.tail _ ht)⟩
        · have q := mem_rangeL hts
          exact ⟨q.1, by lia, ha' ts hts⟩
      | false =>
        refine Ex.stop (Ex1.for_ (Ev.call (Ev.glob (g_range L) rfl) (KeepOk.type _) (.cons Ev.int (.cons (Ev.bin (Ev.name 2 rfl rfl) Ev.int BinG.add) .nil)) FnG.range2) (IterG.range (by decide) (by decide) (by lia) (by decide))
          (Turns.run vInt (fun st : Slot => [.val (vObj 83 (wsAttrs l w)), .val (vObj 83 (wsAttrs l' v)), .val (vInt (max (runOf w) (runOf v) + 1)), st]) (fun _ ts => [.val (vObj 83 (wsAttrs l w)), .val (vObj 83 (wsAttrs l' v)), .val (vInt (max (runOf w) (runOf v) + 1)), .val (vInt ts)])
            (fun _ r => (∀ ts ∈ r, 2 ≤ ts ∧ ts ≤ 5000) ∧ (r.all fun ts => !decide (levelOf w ts ≥ levelOf v ts)) = false) (fun _ _ => .ret (vBool false)) (fun _ _ => Asg.name 3 rfl hnd rfl) (fun _ h => nomatch h.2) (fun st ts r hi => ?_) _ .un ⟨fun ts hts => ?_, ha⟩)) (fun _ => Out.noConfusion)
        · obtain ⟨a1, a2⟩ := hi.1 ts (.head _)
          cases hd : decide (levelOf w ts ≥ levelOf v ts) with
          | true => exact .inr (.inr ⟨_, Ex.one (Ex1.iff ((EvB.cmp (hlev hw (by lia) a2 (Ev.name 0 rfl rfl) (.cons (Ev.name 3 rfl rfl) .nil) (fun _ => rfl) rfl) (hlev hv (by lia) a2 (Ev.name 1 rfl rfl) (.cons (Ev.name 3 rfl rfl) .nil) (fun _ => rfl) rfl) CmpG.ge).conv hd) (fun _ => Ex.one (Ex1.ret Ev.bool)) (fun h => nomatch h)), rfl⟩)
          | false =>
            have h2 := hi.2
            rw [List.all_cons, hd, Bool.not_false, Bool.true_and] at h2
            exact .inl ⟨.val (vInt ts), Ex.one (Ex1.iff ((EvB.cmp (hlev hw (by lia) a2 (Ev.name 0 rfl rfl) (.cons (Ev.name 3 rfl rfl) .nil) (fun _ => rfl) rfl) (hlev hv (by lia) a2 (Ev.name 1 rfl rfl) (.cons (Ev.name 3 rfl rfl) .nil) (fun _ => rfl) rfl) CmpG.ge).conv hd) (fun h => nomatch h) (fun _ => Ex.nil)), ⟨fun t ht => hi.1 t (.tail _ ht), h2⟩, rfl⟩
        · have q := mem_rangeL hts
          exact ⟨q.1, by lia⟩

end
end Mine

/-! F2d -/
set_option maxRecDepth 10000
namespace Mine
open PySem PySem.W PyProof.Rows

section
variable {C : Cx} {P : Params} {mg : Str → Option Value} (L : LawG C (hd.heap_39 P) mg) {n : Nat}
include L

theorem g_map : GlobIs C "map" (.type "map") := L.bi (by kernel_rfl) (by decide +kernel) (by decide)
theorem g_int : GlobIs C "int" (.type "int") := L.bi (by kernel_rfl) (by decide +kernel) (by decide)

omit L in
theorem split_dot {a b : Int} (ha : 0 ≤ a) (hb : 0 ≤ b) : splitOn 46 (dig a ++ [46] ++ dig b) = [dig a, dig b] := by
  have h1 : 46 ∉ dig a := fun h => by have := dig_digits ha 46 h; lia
  have h2 : 46 ∉ dig b := fun h => by have := dig_digits hb 46 h; lia
  rw [List.append_assoc, List.singleton_append, splitOn_append _ h1, splitOn_free h2]

set_option maxHeartbeats 4000000 in
theorem glc_fn (a b : Int) (ha : 0 ≤ a) (hb : 0 ≤ b) (ha' : a < 10 ^ 10) (hb' : b < 10 ^ 10) : FnG C (n + 2) (.ref 101) [vS (dig a ++ [46] ++ dig b)] (vTup [vInt a, vInt b]) := by
  refine FnG.top (n := n + 1) (L.def_ (xs := ["index"]) (names := ["index", "line", "col"]) (cells := []) (by kernel_rfl) (by kernel_rfl) (bind_1 fun a => by kernel_rfl)) rfl (o := .ret (vTup [vInt a, vInt b])) ?_ (.ret _)
  rw [show fnAt (hd.heap_39 P) 101 = FuncData.mk _ _ _ _ _ _ _ _ _ _ _ _ _ _ _ from rfl]
  dsimp only [bodyOf, startVals, List.map, List.append, List.replicate, List.length]
  have hnd : (["index", "line", "col"] : List Str).Nodup := by decide
  have hlen : (dig a ++ [46] ++ dig b).length < sizeLine := by
    have := dig_length ha ha'; have := dig_length hb hb'
    simp only [List.length_append, List.length_cons, List.length_nil, sizeLine_eq]; lia
  have hsp : FnG C (n + 1) (.builtin "str.split") [vS (dig a ++ [46] ++ dig b), vS [46]] (vLst [vS (dig a), vS (dig b)]) := by
    have := FnG.split (C := C) (n := n + 1) (c := 46) hlen
    rwa [split_dot ha hb] at this
  refine Ex.cons (Ex1.unpackMap (Ev.glob (g_map L) rfl) (Ev.glob (g_int L) rfl) (Ev.methStr (Ev.name 0 rfl rfl) (.cons (Ev.s [46] rfl) .nil) hsp PySem.F.slot_str_split PySem.F.type_str_split)
    (.cons (Ev.glob (g_int L) rfl) (.cons (Ev.methStr (Ev.name 0 rfl rfl) (.cons (Ev.s [46] rfl) .nil) hsp PySem.F.slot_str_split PySem.F.type_str_split) .nil)) (FnG.int ha ha') (FnG.int hb hb') (by lia) (Names.cons 1 rfl rfl (Names.cons 2 rfl rfl Names.nil)) hnd) ?_
  exact Ex.one (Ex1.ret (Ev.tuple (.cons (Ev.name 1 rfl rfl) (.cons (Ev.name 2 rfl rfl) .nil))))

noncomputable abbrev revSlots (q : VP) (t : List Nat) (col : Int) (m f i j : Slot) : List Slot := [.val (vFun [("search", q)]), .val (vS t), .val (vInt col), m, f, i, j]

set_option maxHeartbeats 8000000 in
theorem rev_fn {q : VP} {hit : Int → Int → VP} {t : List Nat} {nx : Int → Option (Int × Int)} (hq : q.IsFn) (H : HitOk C n hit) (hg : Goes nx) (h0 : CallG C n q [vS t] (resP hit (nx 0))) (hs : ∀ j, CallG C n q [vS t, vInt j] (resP hit (nx j))) (col : Int) :
    FnG C (n + 1) (.ref 94) [vFun [("search", q)], vS t, vInt col] (resP hit (srev nx col)) := by
  refine FnG.top (L.def_ (xs := ["prog", "chars", "col"]) (names := ["prog", "chars", "col", "m", "found", "i", "j"]) (cells := []) (by kernel_rfl) (by kernel_rfl) (bind_3 fun a b c => by kernel_rfl)) rfl (o := .ret (resP hit (srev nx col))) ?_ (.ret _)
  rw [show fnAt (hd.heap_39 P) 94 = FuncData.mk _ _ _ _ _ _ _ _ _ _ _ _ _ _ _ from rfl]
  dsimp only [bodyOf, startVals, List.map, List.append, List.replicate, List.length]
  have hnd : (["prog", "chars", "col", "m", "found", "i", "j"] : List Str).Nodup := by decide
  refine Ex.cons (Ex1.assign 3 rfl hnd rfl (Ev.callAttr (Ev.name 0 rfl rfl) rfl hq (.cons (Ev.name 1 rfl rfl) .nil) fnSearch h0)) ?_
  cases e0 : nx 0 with
  | none =>
    have e : srev nx col = none := by unfold srev; rw [e0]
    rw [e]
    exact Ex.stop (Ex1.iff (c := true) (EvB.not (EvB.value (Ev.name 3 rfl rfl) TruG.none_)) (fun _ => Ex.one (Ex1.ret Ev.none)) (fun h => nomatch h)) (fun _ => Out.noConfusion)
  | some m =>
    have e : srev nx col = srevGo nx col (2 * col + 5).toNat none m := by unfold srev; rw [e0]
    rw [e]
    refine Ex.cons (Ex1.iff (c := false) (EvB.not (EvB.value (Ev.name 3 rfl rfl) (H.tru m.1 m.2))) (fun h => nomatch h) (fun _ => Ex.nil)) ?_
    refine Ex.cons (Ex1.assign 4 rfl hnd rfl Ev.none) ?_
    refine Ex.cons (Ex1.assignTuple (H.span (i := m.1) (j := m.2) (Ev.name 3 rfl rfl) (fun _ => rfl) rfl) (Names.cons 5 rfl rfl (Names.cons 6 rfl rfl Names.nil)) hnd) ?_
    refine Ex.while_run (fun st : Option (Int × Int) × (Int × Int) => revSlots q t col (.val (hit st.2.1 st.2.2)) (.val (resP hit st.1)) (.val (vInt st.2.1)) (.val (vInt st.2.2)))
      (fun st k => srevGo nx col k st.1 st.2 = srevGo nx col (2 * col + 5).toNat none m ∧ 2 * (col + 1 - st.2.2) + (if st.2.1 = st.2.2 then 0 else 1) < k)
      (fun v => v[4]? = some (.val (resP hit (srevGo nx col (2 * col + 5).toNat none m)))) (2 * col + 5).toNat (none, m) ⟨rfl, ?_⟩ (fun v hv => Ex.one (Ex1.ret (Ev.name 4 rfl hv))) ?_
    · have := (hg 0 m.1 m.2 e0).1
      dsimp only
      split <;> lia
    · rintro ⟨f, i, j⟩ k ⟨hR, hk⟩
      dsimp only at hR hk
      by_cases hT : i < col ∧ j ≤ col
      · obtain ⟨k, rfl⟩ : ∃ k', k = k' + 1 := ⟨k - 1, by split at hk <;> lia⟩
        have hR' : (match nx (if i = j then j + 1 else j) with | none => some (i, j) | some m' => srevGo nx col k (some (i, j)) m') = srevGo nx col (2 * col + 5).toNat none m := by rw [← hR, srevGo]; exact (if_pos hT).symm
        have htest : (decide (i < col) && (decide (j ≤ col) && true)) = true := by simp [hT.1, hT.2]
        by_cases hij : i = j
        · subst hij
          rw [if_pos rfl] at hR'
          cases hn : nx (i + 1) with
          | none =>
            rw [hn] at hR'
            refine .inr (.inr ⟨_, (EvB.bool (EvAll.and_cons (EvB.cmp (Ev.name 5 rfl rfl) (Ev.name 2 rfl rfl) CmpG.lt) fun _ => EvAll.and_cons (EvB.cmp (Ev.name 6 rfl rfl) (Ev.name 2 rfl rfl) CmpG.le) fun _ => EvAll.and_nil)).conv htest,
              Ex.cons (Ex1.assign 4 rfl hnd rfl (Ev.name 3 rfl rfl)) (Ex.cons (Ex1.iff (c := true) ((EvB.cmp (Ev.name 5 rfl rfl) (Ev.name 6 rfl rfl) CmpG.eqI).conv (by simp)) (fun _ => Ex.one (Ex1.assign 6 rfl hnd rfl (Ev.bin (Ev.name 6 rfl rfl) Ev.int BinG.add))) (fun h => nomatch h))
                (Ex.cons (Ex1.assign (p := vNone) 3 rfl hnd rfl (Ev.callAttr (Ev.name 0 rfl rfl) rfl hq (.cons (Ev.name 1 rfl rfl) (.cons (Ev.name 6 rfl rfl) .nil)) fnSearch (by have := hs (i + 1); rw [hn] at this; exact this)))
                  (Ex.stop (Ex1.iff (c := true) (EvB.not (EvB.value (Ev.name 3 rfl rfl) TruG.none_)) (fun _ => Ex.one Ex1.brk) (fun h => nomatch h)) (fun _ => Out.noConfusion)))), ?_⟩)
            rw [← hR']; rfl
          | some m' =>
            rw [hn] at hR'
            refine .inr (.inl ⟨(some (i, i), m'), k, by lia, (EvB.bool (EvAll.and_cons (EvB.cmp (Ev.name 5 rfl rfl) (Ev.name 2 rfl rfl) CmpG.lt) fun _ => EvAll.and_cons (EvB.cmp (Ev.name 6 rfl rfl) (Ev.name 2 rfl rfl) CmpG.le) fun _ => EvAll.and_nil)).conv htest,
              Ex.cons (Ex1.assign 4 rfl hnd rfl (Ev.name 3 rfl rfl)) (Ex.cons (Ex1.iff (c := true) ((EvB.cmp (Ev.name 5 rfl rfl) (Ev.name 6 rfl rfl) CmpG.eqI).conv (by simp)) (fun _ => Ex.one (Ex1.assign 6 rfl hnd rfl (Ev.bin (Ev.name 6 rfl rfl) Ev.int BinG.add))) (fun h => nomatch h))
                (Ex.cons (Ex1.assign (p := hit m'.1 m'.2) 3 rfl hnd rfl (Ev.callAttr (Ev.name 0 rfl rfl) rfl hq (.cons (Ev.name 1 rfl rfl) (.cons (Ev.name 6 rfl rfl) .nil)) fnSearch (by have := hs (i + 1); rw [hn] at this; exact this)))
                  (Ex.cons (Ex1.iff (c := false) (EvB.not (EvB.value (Ev.name 3 rfl rfl) (H.tru m'.1 m'.2))) (fun h => nomatch h) (fun _ => Ex.nil))
                    (Ex.one (Ex1.assignTuple (H.span (i := m'.1) (j := m'.2) (Ev.name 3 rfl rfl) (fun _ => rfl) rfl) (Names.cons 5 rfl rfl (Names.cons 6 rfl rfl Names.nil)) hnd))))), hR', ?_⟩)
            obtain ⟨a1, a2⟩ := hg (i + 1) m'.1 m'.2 hn
            dsimp only
            rw [if_pos rfl] at hk
            split <;> lia
        · rw [if_neg hij] at hR'
          cases hn : nx j with
          | none =>
            rw [hn] at hR'
            refine .inr (.inr ⟨_, (EvB.bool (EvAll.and_cons (EvB.cmp (Ev.name 5 rfl rfl) (Ev.name 2 rfl rfl) CmpG.lt) fun _ => EvAll.and_cons (EvB.cmp (Ev.name 6 rfl rfl) (Ev.name 2 rfl rfl) CmpG.le) fun _ => EvAll.and_nil)).conv htest,
              Ex.cons (Ex1.assign 4 rfl hnd rfl (Ev.name 3 rfl rfl)) (Ex.cons (Ex1.iff (c := false) ((EvB.cmp (Ev.name 5 rfl rfl) (Ev.name 6 rfl rfl) CmpG.eqI).conv (decide_eq_false hij)) (fun h => nomatch h) (fun _ => Ex.nil))
                (Ex.cons (Ex1.assign (p := vNone) 3 rfl hnd rfl (Ev.callAttr (Ev.name 0 rfl rfl) rfl hq (.cons (Ev.name 1 rfl rfl) (.cons (Ev.name 6 rfl rfl) .nil)) fnSearch (by have := hs j; rw [hn] at this; exact this)))
                  (Ex.stop (Ex1.iff (c := true) (EvB.not (EvB.value (Ev.name 3 rfl rfl) TruG.none_)) (fun _ => Ex.one Ex1.brk) (fun h => nomatch h)) (fun _ => Out.noConfusion)))), ?_⟩)
            rw [← hR']; rfl
          | some m' =>
            rw [hn] at hR'
            refine .inr (.inl ⟨(some (i, j), m'), k, by lia, (EvB.bool (EvAll.and_cons (EvB.cmp (Ev.name 5 rfl rfl) (Ev.name 2 rfl rfl) CmpG.lt) fun _ => EvAll.and_cons (EvB.cmp (Ev.name 6 rfl rfl) (Ev.name 2 rfl rfl) CmpG.le) fun _ => EvAll.and_nil)).conv htest,
              Ex.cons (Ex1.assign 4 rfl hnd rfl (Ev.name 3 rfl rfl)) (Ex.cons (Ex1.iff (c := false) ((EvB.cmp (Ev.name 5 rfl rfl) (Ev.name 6 rfl rfl) CmpG.eqI).conv (decide_eq_false hij)) (fun h => nomatch h) (fun _ => Ex.nil))
                (Ex.cons (Ex1.assign (p := hit m'.1 m'.2) 3 rfl hnd rfl (Ev.callAttr (Ev.name 0 rfl rfl) rfl hq (.cons (Ev.name 1 rfl rfl) (.cons (Ev.name 6 rfl rfl) .nil)) fnSearch (by have := hs j; rw [hn] at this; exact this)))
                  (Ex.cons (Ex1.iff (c := false) (EvB.not (EvB.value (Ev.name 3 rfl rfl) (H.tru m'.1 m'.2))) (fun h => nomatch h) (fun _ => Ex.nil))
                    (Ex.one (Ex1.assignTuple (H.span (i := m'.1) (j := m'.2) (Ev.name 3 rfl rfl) (fun _ => rfl) rfl) (Names.cons 5 rfl rfl (Names.cons 6 rfl rfl Names.nil)) hnd))))), hR', ?_⟩)
            obtain ⟨a1, a2⟩ := hg j m'.1 m'.2 hn
            dsimp only
            rw [if_neg hij] at hk
            split <;> lia
      · refine .inl ⟨(EvB.bool (EvAll.and_cons (EvB.cmp (Ev.name 5 rfl rfl) (Ev.name 2 rfl rfl) CmpG.lt) fun _ => EvAll.and_cons (EvB.cmp (Ev.name 6 rfl rfl) (Ev.name 2 rfl rfl) CmpG.le) fun _ => EvAll.and_nil)).conv ?_, ?_⟩
        · simp only [Bool.and_true, ← Bool.decide_and]; exact decide_eq_false hT
        · have : srevGo nx col k f (i, j) = f := by
            cases k with
            | zero => rfl
            | succ k => rw [srevGo]; exact if_neg hT
          show some (Slot.val (resP hit f)) = _
          rw [← hR, this]

end
end Mine

/-! F2e -/
set_option maxRecDepth 10000
namespace Mine
open PySem PySem.W PyProof.Rows

section
variable {C : Cx} {P : Params} {mg : Str → Option Value} (L : LawG C (hd.heap_39 P) mg) {n : Nat}
include L

noncomputable abbrev hit2 (P : Params) (i j : Int) : VP := hitVP (hd.heap_39 P) 115 [("first", vInt i), ("behind", vInt j)]

set_option maxHeartbeats 4000000 in
theorem hit_fn (T : MakerOk C mg (hitTab (hd.heap_39 P) 115 114 110)) (i j : Int) : FnG C (n + 1) (.ref 115) [vInt i, vInt j] (hit2 P i j) := by
  have D := L.def_ (a := 115) (xs := ["first", "behind"]) (names := ["first", "behind", "hit"]) (cells := ["first", "behind"]) (by kernel_rfl) (by kernel_rfl) (bind_2 fun a b => by kernel_rfl)
  refine FnG.hit (x := "hit") (attr := "span") 2 D rfl T (by kernel_rfl) rfl ⟨.head _, ?_⟩ ⟨.tail _ (.head _), ?_⟩ rfl rfl rfl rfl ?_ fnSpan
  · intro x hx _ _
    rcases List.mem_cons.mp hx with rfl | hx
    · rfl
    · cases List.mem_singleton.mp hx; rfl
  · intro x hx _ _
    rcases List.mem_cons.mp hx with rfl | hx
    · rfl
    · cases List.mem_singleton.mp hx; rfl
  · intro q b hb
    rcases List.mem_cons.mp hb with rfl | hb
    · exact ⟨⟨0, rfl, rfl⟩, by kernel_rfl, by simp⟩
    · cases List.mem_singleton.mp hb
      exact ⟨⟨1, rfl, rfl⟩, by kernel_rfl, by simp⟩

set_option maxHeartbeats 4000000 in
theorem hit_ok : HitOk C (n + 1) (hit2 P) := ⟨fun i j => ⟨_, rfl, isFn_clo, by
  refine CallG.expr L.lim (.of (by kernel_rfl)) (fun fd h h' h'' => ?_) ?_
  · obtain ⟨_, _, pr, _, _, _, _, _, _, _, _, _, _, _, _⟩ := fd
    dsimp only at h h' h''
    subst h h' h''
    kernel_rfl
  · exact Ev.tuple (.cons (Ev.name 0 rfl rfl) (.cons (Ev.name 1 rfl rfl) .nil))⟩⟩

noncomputable abbrev prog2 (P : Params) (t : List Nat) (sp : List (Int × Int)) : VP := progVP (hd.heap_39 P) 122 [("text", vS t), ("spans", vLst (sp.map fun s => vTup [vInt s.1, vInt s.2]))]

set_option maxHeartbeats 4000000 in
theorem prog_fn (T : MakerOk C mg (progTab (hd.heap_39 P) 122 121 117)) (t : List Nat) (sp : List (Int × Int)) : FnG C (n + 1) (.ref 122) [vS t, vLst (sp.map fun s => vTup [vInt s.1, vInt s.2])] (prog2 P t sp) := by
  have D := L.def_ (a := 122) (xs := ["text", "spans"]) (names := ["text", "spans", "search", "prog"]) (cells := ["text", "spans"]) (by kernel_rfl) (by kernel_rfl) (bind_2 fun a b => by kernel_rfl)
  refine FnG.prog (sn := "search") (x := "prog") (attr := "search") 3 2 D rfl T (by kernel_rfl) rfl ?_ ⟨.tail _ (.head _), ?_⟩ ⟨.head _, ?_⟩ rfl rfl rfl rfl (by decide) rfl rfl (fun _ => rfl) rfl ?_ ?_ ?_ fnSearch
  · intro env h1 h2
    obtain ⟨sc, _, _, _, qu, _, _, _, _⟩ := env
    dsimp only at h1 h2
    subst h1 h2
    kernel_rfl
  · have hne : ((lamAt (hd.heap_39 P) 122 1).2.2.2.line == (defAt (hd.heap_39 P) 122 0).2.2.2.line) = false := by kernel_rfl
    intro x hx h1 _
    rcases List.mem_cons.mp hx with rfl | hx
    · rw [show (lamAt (hd.heap_39 P) 122 1).2.2.2.line = _ from h1, beq_self_eq_true] at hne; cases hne
    · cases List.mem_singleton.mp hx; rfl
  · have hne : ((defAt (hd.heap_39 P) 122 0).2.2.2.line == (lamAt (hd.heap_39 P) 122 1).2.2.2.line) = false := by kernel_rfl
    intro x hx h1 _
    rcases List.mem_cons.mp hx with rfl | hx
    · rfl
    · cases List.mem_singleton.mp hx
      rw [show (defAt (hd.heap_39 P) 122 0).2.2.2.line = _ from h1, beq_self_eq_true] at hne; cases hne
  · rfl
  · intro b hb
    rcases List.mem_cons.mp hb with rfl | hb
    · exact ⟨⟨0, rfl, rfl⟩, by kernel_rfl, by simp⟩
    · cases List.mem_singleton.mp hb
      exact ⟨⟨1, rfl, rfl⟩, by kernel_rfl, by simp⟩
  · intro q q' b hb
    rcases List.mem_cons.mp hb with rfl | hb
    · exact ⟨⟨0, rfl, rfl⟩, by kernel_rfl, by simp⟩
    · cases List.mem_singleton.mp hb
      exact ⟨⟨1, rfl, rfl⟩, by kernel_rfl, by simp⟩

noncomputable abbrev spansP (sp : List (Int × Int)) : VP := vLst (sp.map fun s => vTup [vInt s.1, vInt s.2])
noncomputable abbrev search2 (P : Params) (t : List Nat) (sp : List (Int × Int)) : VP := searchVP (hd.heap_39 P) 122 [("text", vS t), ("spans", spansP sp)]

set_option maxHeartbeats 4000000 in
theorem search_ex (T : MakerOk C mg (hitTab (hd.heap_39 P) 115 114 110)) (t : List Nat) (sp : List (Int × Int)) (j : Int) :
    Ex C ⟨(defAt (hd.heap_39 P) 122 0).2.2.1, ["chars", "begin", "first", "behind", "text", "spans"], []⟩ (n + 1) (cloVals [vS t, vInt j] 2 [("text", vS t), ("spans", spansP sp)]) (defAt (hd.heap_39 P) 122 0).2.1 (.ret (resP (hit2 P) (nxS sp j))) := by
  rw [show defAt (hd.heap_39 P) 122 0 = (_, _, Scope.mk _ _ _ _ _, _) from rfl]
  dsimp only
  have hnd : (["chars", "begin", "first", "behind", "text", "spans"] : List Str).Nodup := by decide
  cases hx : nxS sp j with
  | none =>
    have hall : ∀ s ∈ sp, ¬ j < s.2 := by
      intro s hs
      induction sp with
      | nil => cases hs
      | cons a r ih =>
        unfold nxS at hx
        split at hx
        · cases hx
        · rcases List.mem_cons.mp hs with rfl | hs
          · assumption
          · exact ih hx hs
    refine Ex.cons (Ex1.for_ (Ev.name 5 rfl rfl) IterG.list (Turns.fold (fun s : Int × Int => vTup [vInt s.1, vInt s.2]) (fun st : Slot × Slot => [.val (vS t), .val (vInt j), st.1, st.2, .val (vS t), .val (spansP sp)])
      (fun _ s => [.val (vS t), .val (vInt j), .val (vInt s.1), .val (vInt s.2), .val (vS t), .val (spansP sp)]) (fun _ r => ∀ s ∈ r, ¬ j < s.2) (fun _ s => (.val (vInt s.1), .val (vInt s.2))) (fun st s => Asg.tuple (Names.cons 2 rfl rfl (Names.cons 3 rfl rfl Names.nil)) hnd) (fun st s r hi => ⟨?_, fun x hx => hi x (.tail _ hx)⟩) sp (.un, .un) hall)) (Ex.one (Ex1.ret Ev.none))
    exact Ex.one (Ex1.iff (c := false) ((EvB.bool (EvAll.and_cons (EvB.cmp (Ev.name 0 rfl rfl) (Ev.name 4 rfl rfl) CmpG.eqS) fun _ => EvAll.and_cons (EvB.cmp (Ev.name 1 rfl rfl) (Ev.name 3 rfl rfl) CmpG.lt) fun _ => EvAll.and_nil)).conv (by simpa using hi s (.head _))) (fun h => nomatch h) (fun _ => Ex.nil))
  | some m =>
    refine Ex.stop (Ex1.for_ (Ev.name 5 rfl rfl) IterG.list (Turns.run (fun s : Int × Int => vTup [vInt s.1, vInt s.2]) (fun st : Slot × Slot => [.val (vS t), .val (vInt j), st.1, st.2, .val (vS t), .val (spansP sp)])
      (fun _ s => [.val (vS t), .val (vInt j), .val (vInt s.1), .val (vInt s.2), .val (vS t), .val (spansP sp)]) (fun _ r => nxS r j = some m) (fun _ _ => .ret (hit2 P m.1 m.2)) (fun st s => Asg.tuple (Names.cons 2 rfl rfl (Names.cons 3 rfl rfl Names.nil)) hnd) (fun _ h => nomatch h) (fun st s r hi => ?_) sp (.un, .un) hx)) (fun _ => Out.noConfusion)
    unfold nxS at hi
    by_cases hj : j < s.2
    · rw [if_pos hj] at hi
      cases hi
      refine .inr (.inr ⟨_, Ex.one (Ex1.iff (c := true) ((EvB.bool (EvAll.and_cons (EvB.cmp (Ev.name 0 rfl rfl) (Ev.name 4 rfl rfl) CmpG.eqS) fun _ => EvAll.and_cons (EvB.cmp (Ev.name 1 rfl rfl) (Ev.name 3 rfl rfl) CmpG.lt) fun _ => EvAll.and_nil)).conv (by simpa using hj)) (fun _ => Ex.one (Ex1.ret ?_)) (fun h => nomatch h)), rfl⟩)
      exact Ev.call (Ev.glob (L.fn (by kernel_rfl)) rfl) (L.keep (by kernel_rfl)) (.cons (Ev.call (Ev.glob (g_max L) rfl) (KeepOk.builtin _) (.cons (Ev.name 2 rfl rfl) (.cons (Ev.name 1 rfl rfl) .nil)) FnG.max2) (.cons (Ev.name 3 rfl rfl) .nil)) (hit_fn L T _ _)
    · rw [if_neg hj] at hi
      refine .inl ⟨(.val (vInt s.1), .val (vInt s.2)), Ex.one (Ex1.iff (c := false) ((EvB.bool (EvAll.and_cons (EvB.cmp (Ev.name 0 rfl rfl) (Ev.name 4 rfl rfl) CmpG.eqS) fun _ => EvAll.and_cons (EvB.cmp (Ev.name 1 rfl rfl) (Ev.name 3 rfl rfl) CmpG.lt) fun _ => EvAll.and_nil)).conv (by simpa using hj)) (fun h => nomatch h) (fun _ => Ex.nil)), hi, rfl⟩

theorem search_call2 (T : MakerOk C mg (hitTab (hd.heap_39 P) 115 114 110)) (t : List Nat) (sp : List (Int × Int)) (j : Int) : CallG C (n + 2) (search2 P t sp) [vS t, vInt j] (resP (hit2 P) (nxS sp j)) := by
  refine CallG.stmts (xs := ["chars", "begin"]) (locs := ["first", "behind"]) L.lim (.of (by kernel_rfl)) rfl (fun S s vs fd h1 h2 h3 h4 => ?_) (search_ex L T t sp j) (.ret _)
  obtain ⟨a, b, rfl, ha, hb⟩ := h4.two
  refine ⟨[a, b], ⟨ha, hb, trivial⟩, ?_⟩
  obtain ⟨tp, ws, e1, e2, e3, e4⟩ := h3
  obtain ⟨d, rfl, hd⟩ := e4.one
  obtain ⟨_, _, pr, _, _, _, _, df, kd, _, _, _, _, _, _⟩ := fd
  dsimp only at h1 h2 e1
  subst h1 h2 e1
  exact BindsTo.of_defaults rfl e3 rfl (show bindArgs _ _ = seqItems? _ >>= _ from rfl) (by kernel_rfl)

theorem search_call1 (T : MakerOk C mg (hitTab (hd.heap_39 P) 115 114 110)) (t : List Nat) (sp : List (Int × Int)) : CallG C (n + 2) (search2 P t sp) [vS t] (resP (hit2 P) (nxS sp 0)) := by
  refine CallG.stmts (xs := ["chars", "begin"]) (locs := ["first", "behind"]) (ps' := [vS t, vInt 0]) L.lim (.of (by kernel_rfl)) rfl (fun S s vs fd h1 h2 h3 h4 => ?_) (search_ex L T t sp 0) (.ret _)
  obtain ⟨a, rfl, ha⟩ := h4.one
  obtain ⟨tp, ws, e1, e2, e3, e4⟩ := h3
  obtain ⟨d, rfl, hd⟩ := e4.one
  refine ⟨[a, d], ⟨ha, hd, trivial⟩, ?_⟩
  obtain ⟨_, _, pr, _, _, _, _, df, kd, _, _, _, _, _, _⟩ := fd
  dsimp only at h1 h2 e1
  subst h1 h2 e1
  exact BindsTo.of_defaults rfl e3 rfl (show bindArgs _ _ = seqItems? _ >>= _ from rfl) (by kernel_rfl)

/-- search_reverse of such a prog -/
theorem rev2_fn (T : MakerOk C mg (hitTab (hd.heap_39 P) 115 114 110)) (t : List Nat) (sp : List (Int × Int)) (col : Int) : FnG C (n + 3) (.ref 94) [prog2 P t sp, vS t, vInt col] (resP (hit2 P) (srev (nxS sp) col)) :=
  rev_fn L isFn_clo (hit_ok L) (nxS_goes sp) (search_call1 L T t sp) (search_call2 L T t sp) col

end
end Mine

/-! F2f -/
set_option maxRecDepth 10000
namespace Mine
open PySem PySem.W PyProof.Rows

section
variable {C : Cx} {P : Params} {mg : Str → Option Value} (L : LawG C (hd.heap_39 P) mg) {n : Nat}
include L

set_option maxHeartbeats 4000000 in
theorem mayGo_fn (l l' : List Nat) (w v : WsS) (hw : w.small) (hv : v.small) (e : Bool) : FnG C (n + 3) (.ref 129) [vObj 83 (wsAttrs l w), vObj 83 (wsAttrs l' v), vBool e] (vBool (mayGo w v e)) := by
  refine FnG.top (L.def_ (xs := ["above", "lead", "equals"]) (names := ["above", "lead", "equals"]) (cells := []) (by kernel_rfl) (by kernel_rfl) (bind_3 fun a b c => by kernel_rfl)) rfl (o := .ret (vBool (mayGo w v e))) ?_ (.ret _)
  rw [show fnAt (hd.heap_39 P) 129 = FuncData.mk _ _ _ _ _ _ _ _ _ _ _ _ _ _ _ from rfl]
  dsimp only [bodyOf, startVals, List.map, List.append, List.replicate, List.length]
  have hless : ∀ {fr : Shape} {vals : List Slot} {x y : Expr} {ap cp : Pos}, Ev C fr (n + 2) vals x (vObj 83 (wsAttrs l w)) → EvArgs C fr (n + 2) vals [y] [vObj 83 (wsAttrs l' v)] → (∀ env, attributeBase x "less" env (eval x env) = eval x env) → (ap.endLine == cp.line) = true →
      Ev C fr (n + 2) vals (.Call (.Attribute x "less" ap) [y] [] cp) (vBool (lessB w v)) := fun h ha hb hl =>
    Ev.methObj h L.X (by kernel_rfl) (by kernel_rfl) (by kernel_rfl) rfl (L.keep (by kernel_rfl)) ha (less_fn L _ _ _ _ hw hv) hb (by simp) hl
  have hequal : ∀ {fr : Shape} {vals : List Slot} {x y : Expr} {ap cp : Pos}, Ev C fr (n + 2) vals x (vObj 83 (wsAttrs l w)) → EvArgs C fr (n + 2) vals [y] [vObj 83 (wsAttrs l' v)] → (∀ env, attributeBase x "equal" env (eval x env) = eval x env) → (ap.endLine == cp.line) = true →
      Ev C fr (n + 2) vals (.Call (.Attribute x "equal" ap) [y] [] cp) (vBool (equalB w v)) := fun h ha hb hl =>
    Ev.methObj h L.X (by kernel_rfl) (by kernel_rfl) (by kernel_rfl) rfl (L.keep (by kernel_rfl)) ha (equal_fn L _ _ _ _) hb (by simp) hl
  cases e with
  | true =>
    exact Ex.stop (Ex1.iff (c := true) (EvB.value (Ev.name 2 rfl rfl) (TruG.bool _)) (fun _ => Ex.one (Ex1.ret (Ev.or2 (hless (Ev.name 0 rfl rfl) (.cons (Ev.name 1 rfl rfl) .nil) (fun _ => rfl) rfl) fun _ => hequal (Ev.name 0 rfl rfl) (.cons (Ev.name 1 rfl rfl) .nil) (fun _ => rfl) rfl))) (fun h => nomatch h)) (fun _ => Out.noConfusion)
  | false =>
    refine Ex.cons (Ex1.iff (c := false) (EvB.value (Ev.name 2 rfl rfl) (TruG.bool _)) (fun h => nomatch h) (fun _ => Ex.nil)) ?_
    exact Ex.one (Ex1.ret (Ev.and2 (hless (Ev.name 0 rfl rfl) (.cons (Ev.name 1 rfl rfl) .nil) (fun _ => rfl) rfl) fun _ => Ev.not (hequal (Ev.name 0 rfl rfl) (.cons (Ev.name 1 rfl rfl) .nil) (fun _ => rfl) rfl) (TruG.bool _)))

set_option maxHeartbeats 4000000 in
theorem columns_fn (l : List Nat) : FnG C (n + 1) (.ref 141) [vS l] (vLst ((columnsOf l).map vInt)) := by
  refine FnG.top (L.def_ (xs := ["lead"]) (names := ["lead", "columns", "size", "column", "sign"]) (cells := []) (by kernel_rfl) (by kernel_rfl) (bind_1 fun a => by kernel_rfl)) rfl (o := .ret (vLst ((columnsOf l).map vInt))) ?_ (.ret _)
  rw [show fnAt (hd.heap_39 P) 141 = FuncData.mk _ _ _ _ _ _ _ _ _ _ _ _ _ _ _ from rfl]
  dsimp only [bodyOf, startVals, List.map, List.append, List.replicate, List.length]
  have hnd : (["lead", "columns", "size", "column", "sign"] : List Str).Nodup := by decide
  refine Ex.cons (Ex1.assignOwn 1 rfl hnd rfl (EvL.list .nil)) ?_
  refine Ex.cons (Ex1.for_ (Ev.call (Ev.glob (g_range L) rfl) (KeepOk.type _) (.cons Ev.int (.cons Ev.int .nil)) FnG.range2) (IterG.range (by decide) (by decide) (by decide) (by decide))
    (Turns.fold vInt (fun st : List Int × Slot × Slot × Slot => [.val (vS l), .own (st.1.map vInt), st.2.1, st.2.2.1, st.2.2.2]) (fun st i => [.val (vS l), .own (st.1.map vInt), .val (vInt i), st.2.2.1, st.2.2.2])
      (fun st r => (∀ i ∈ r, 1 ≤ i) ∧ st.1.length + r.length ≤ 20) (fun st i => (st.1 ++ [colWalk i l], .val (vInt i), .val (vInt (colWalk i l)), l.foldl (fun _ x => .val (vS [x])) st.2.2.2)) (fun st i => Asg.name 2 rfl hnd rfl) (fun st i r hi => ⟨?_, ?_⟩) _ ([], .un, .un, .un) ⟨?_, by decide⟩)) ?_
  · obtain ⟨hi1, hi2⟩ := hi
    have h1 := hi1 i (.head _)
    refine Ex.cons (Ex1.assign 3 rfl hnd rfl Ev.int) ?_
    refine Ex.cons (Ex1.for_ (Ev.name 0 rfl rfl) iter_text (Turns.fold (fun c => vS [c]) (fun q : Int × Slot => [.val (vS l), .own (st.1.map vInt), .val (vInt i), .val (vInt q.1), q.2]) (fun q c => [.val (vS l), .own (st.1.map vInt), .val (vInt i), .val (vInt q.1), .val (vS [c])])
      (fun _ _ => True) (fun q c => (colStep i q.1 c, .val (vS [c]))) (fun q c => Asg.name 4 rfl hnd rfl) (fun q c r _ => ⟨?_, trivial⟩) l (0, st.2.2.2) trivial)) ?_
    · refine Ex.one (Ex1.assign 3 rfl hnd rfl (Ev.ifexp (EvB.cmp (Ev.name 4 rfl rfl) (Ev.s [32] rfl) CmpG.eqS) (fun hc => ?_) (fun hc => ?_)))
      · have hc : c = 32 := by simpa using hc
        exact (Ev.bin (Ev.name 3 rfl rfl) Ev.int BinG.add).conv (by rw [show colStep i q.1 c = q.1 + 1 from if_pos hc])
      · have hc : ¬ c = 32 := by simpa using hc
        exact (Ev.bin (Ev.bin (Ev.name 3 rfl rfl) (Ev.bin (Ev.name 3 rfl rfl) (Ev.name 2 rfl rfl) (BinG.mod (by lia))) BinG.sub) (Ev.name 2 rfl rfl) BinG.add).conv (by rw [show colStep i q.1 c = q.1 - q.1 % i + i from if_neg hc])
    · have key : ∀ (l : List Nat) (q : Int × Slot), l.foldl (fun q c => (colStep i q.1 c, Slot.val (vS [c]))) q = (l.foldl (colStep i) q.1, l.foldl (fun _ x => .val (vS [x])) q.2) := by
        intro l
        induction l with
        | nil => intro q; rfl
        | cons c r ih => intro q; exact ih _
      rw [key]
      refine Ex.one ((Ex1.append 1 rfl rfl (Ev.name 3 rfl rfl) (by rw [List.length_map, sizeLine_eq]; lia)).conv ?_)
      simp [colWalk]
  · obtain ⟨hi1, hi2⟩ := hi
    refine ⟨fun j hj => hi1 j (.tail _ hj), ?_⟩
    simp only [List.length_append, List.length_cons, List.length_nil] at hi2 ⊢; lia
  · intro i hi; exact (mem_rangeL hi).1
  · refine Ex.freeze 1 rfl rfl (Ex.one (Ex1.ret ((Ev.name 1 rfl rfl).conv ?_)))
    congr 2

end
end Mine

/-! F2g -/
set_option maxRecDepth 10000
namespace Mine
open PySem PySem.W PyProof.Rows

section
variable {C : Cx} {P : Params} {mg : Str → Option Value} (L : LawG C (hd.heap_39 P) mg) {n : Nat}
include L

noncomputable abbrev intsP (a : List Int) : VP := vLst (a.map vInt)

set_option maxHeartbeats 4000000 in
theorem farther_fn (a b : List Int) (hab : a.length = b.length) (hsz : a.length ≤ 1000) (e : Bool) : FnG C (n + 1) (.ref 146) [intsP a, intsP b, vBool e] (vBool (fartherB a b e)) := by
  refine FnG.top (L.def_ (xs := ["one", "other", "equals"]) (names := ["one", "other", "equals"]) (cells := ["one", "other"]) (by kernel_rfl) (by kernel_rfl) (bind_3 fun a b c => by kernel_rfl)) rfl (o := .ret (vBool (fartherB a b e))) ?_ (.ret _)
  rw [show fnAt (hd.heap_39 P) 146 = FuncData.mk _ _ _ _ _ _ _ _ _ _ _ _ _ _ _ from rfl]
  dsimp only [bodyOf, startVals, List.map, List.append, List.replicate, List.length]
  have hla : (a.map vInt).length = a.length := List.length_map ..
  have hsz' : (a.map vInt).length ≤ sizeLine := by rw [hla, sizeLine_eq]; lia
  cases hT : (e && decide (a = b)) with
  | true =>
    rw [show fartherB a b e = true from by unfold fartherB; rw [hT]; rfl]
    exact Ex.stop (Ex1.iff (c := true) ((EvB.bool (EvAll.and_cons (EvB.value (Ev.name 2 rfl rfl) (TruG.bool _)) fun _ => EvAll.and_cons (EvB.cmp (Ev.name 0 rfl rfl) (Ev.name 1 rfl rfl) CmpG.eqInts) fun _ => EvAll.and_nil)).conv (by rw [Bool.and_true]; exact hT)) (fun _ => Ex.one (Ex1.ret Ev.bool)) (fun h => nomatch h)) (fun _ => Out.noConfusion)
  | false =>
    rw [show fartherB a b e = decide (((rangeL 0 a.length 1).filter fun i => decide (a.getD i.toNat 0 ≥ b.getD i.toNat 0)) = []) from by unfold fartherB; rw [hT]; rfl]
    refine Ex.cons (Ex1.iff (c := false) ((EvB.bool (EvAll.and_cons (EvB.value (Ev.name 2 rfl rfl) (TruG.bool _)) fun _ => EvAll.and_cons (EvB.cmp (Ev.name 0 rfl rfl) (Ev.name 1 rfl rfl) CmpG.eqInts) fun _ => EvAll.and_nil)).conv (by rw [Bool.and_true]; exact hT)) (fun h => nomatch h) (fun _ => Ex.nil)) ?_
    refine Ex.one (Ex1.ret (Ev.cmp (p := intsP ((rangeL 0 a.length 1).filter fun i => decide (a.getD i.toNat 0 ≥ b.getD i.toNat 0))) (q := intsP []) (EvL.ev (EvL.compOf ["place"] [0, 1] [intsP a, intsP b] (by kernel_rfl) ⟨rfl, rfl, trivial⟩
      (Ev.call (Ev.glob (g_range L) rfl) (KeepOk.type _) (.cons (Ev.call (Ev.glob (g_len L) rfl) (KeepOk.builtin _) (.cons (Ev.name 0 rfl rfl) .nil) ((FnG.lenL hsz').conv (by rw [hla]))) .nil) FnG.range1) (IterG.range (by decide) (by decide) (by lia) (by decide)) ?_ ?_)) (EvL.ev (EvL.list .nil)) CmpG.eqInts))
    · have hnd : (["place", "one", "other"] : List Str).Nodup := by decide
      refine CTurns.sel vInt vInt (fun o => [(match o with | some i => .val (vInt i) | none => .un), .val (intsP a), .val (intsP b)]) (fun i => decide (a.getD i.toNat 0 ≥ b.getD i.toNat 0)) (fun o i => Asg.name 0 rfl hnd rfl) _ none (fun i hi => EvIfs.one ?_) (fun i hi _ => Ev.name 0 rfl rfl)
      have h := mem_rangeL hi
      have get : ∀ (c : List Int), c.length = a.length → (c.map vInt)[i.toNat]? = some (vInt (c.getD i.toNat 0)) := fun c hc => by
        rw [List.getElem?_map, List.getD_eq_getElem?_getD, List.getElem?_eq_getElem (by lia)]; rfl
      exact EvB.cmp (Ev.sub (Ev.name 1 rfl rfl) (Ev.name 0 rfl rfl) (SubG.item h.1 (by lia) (get a rfl))) (Ev.sub (Ev.name 2 rfl rfl) (Ev.name 0 rfl rfl) (SubG.item h.1 (by lia) (get b hab.symm))) CmpG.ge
    · rw [List.length_map, sizeLine_eq]
      refine Nat.le_trans (List.length_filter_le _ _) ?_
      have := rangeL_length a.length
      lia

end
end Mine

/-! F2h -/
set_option maxRecDepth 10000
namespace Mine
open PySem PySem.W PyProof.Rows

section
variable {C : Cx} {P : Params} {mg : Str → Option Value} (L : LawG C (hd.heap_39 P) mg) {n : Nat}
include L

noncomputable abbrev rowsP (rows : List (List Nat)) : VP := vLst (rows.map vS)
noncomputable abbrev colsP (cols : List (List Int)) : VP := vLst (cols.map intsP)

set_option maxHeartbeats 8000000 in
theorem left_fn (rows : List (List Nat)) (cols : List (List Int)) (hl : cols.length = rows.length) (hN : rows.length ≤ 20) (hc : ∀ c ∈ cols, c.length = 10) (e : Bool) : FnG C (n + 2) (.ref 151) [rowsP rows, colsP cols, vBool e] (rowsP (leftOf rows cols e)) := by
  refine FnG.top (n := n + 1) (L.def_ (xs := ["rows", "columns", "equals"]) (names := ["rows", "columns", "equals", "gone", "i", "k"]) (cells := ["rows", "gone"]) (by kernel_rfl) (by kernel_rfl) (bind_3 fun a b c => by kernel_rfl)) rfl (o := .ret (rowsP (leftOf rows cols e))) ?_ (.ret _)
  rw [show fnAt (hd.heap_39 P) 151 = FuncData.mk _ _ _ _ _ _ _ _ _ _ _ _ _ _ _ from rfl]
  dsimp only [bodyOf, startVals, List.map, List.append, List.replicate, List.length]
  have hnd : (["rows", "columns", "equals", "gone", "i", "k"] : List Str).Nodup := by decide
  have hlr : (rows.map vS).length = rows.length := List.length_map ..
  have hszr : (rows.map vS).length ≤ sizeLine := by rw [hlr, sizeLine_eq]; lia
  have hlen : ∀ {m : Nat}, FnG C m (.builtin "len") [rowsP rows] (vInt rows.length) := fun {m} => (FnG.lenL hszr).conv (by rw [hlr])
  have hcol : ∀ i : Int, 0 ≤ i → i < rows.length → (cols.map intsP)[i.toNat]? = some (intsP (colAt cols i)) ∧ (colAt cols i).length = 10 := fun i h0 h1 => by
    have hi : i.toNat < cols.length := by lia
    unfold colAt
    rw [List.getElem?_map, List.getD_eq_getElem?_getD, List.getElem?_eq_getElem hi]
    exact ⟨rfl, hc _ (List.getElem_mem hi)⟩
  refine Ex.cons (Ex1.assignOwn 3 rfl hnd rfl (EvL.list .nil)) ?_
  refine Ex.cons (Ex1.for_ (Ev.call (Ev.glob (g_range L) rfl) (KeepOk.type _) (.cons (Ev.call (Ev.glob (g_len L) rfl) (KeepOk.builtin _) (.cons (Ev.name 0 rfl rfl) .nil) hlen) .nil) FnG.range1) (IterG.range (by decide) (by decide) (by lia) (by decide))
    (Turns.fold vInt (fun st : List Int × Slot × Slot => [.val (rowsP rows), .val (colsP cols), .val (vBool e), .own (st.1.map vInt), st.2.1, st.2.2]) (fun st i => [.val (rowsP rows), .val (colsP cols), .val (vBool e), .own (st.1.map vInt), .val (vInt i), st.2.2])
      (fun st r => (∀ i ∈ r, 0 ≤ i ∧ i < rows.length) ∧ st.1.length + 20 * r.length ≤ 1000) (fun st i => (innerGo cols e i (rangeL (i + 1) rows.length 1) st.1, .val (vInt i), innerK cols e i (rangeL (i + 1) rows.length 1) st.2.2)) (fun st i => Asg.name 4 rfl hnd rfl) (fun st i r hi => ⟨?_, ?_⟩) _ ([], .un, .un) ⟨?_, ?_⟩)) ?_
  · obtain ⟨hi1, hi2⟩ := hi
    obtain ⟨i0, i1⟩ := hi1 i (.head _)
    refine Ex.one (Ex1.for_ (Ev.call (Ev.glob (g_range L) rfl) (KeepOk.type _) (.cons (Ev.bin (Ev.name 4 rfl rfl) Ev.int BinG.add) (.cons (Ev.call (Ev.glob (g_len L) rfl) (KeepOk.builtin _) (.cons (Ev.name 0 rfl rfl) .nil) hlen) .nil)) FnG.range2) (IterG.range (by decide) (by lia) (by lia) (by decide))
      (Turns.run vInt (fun q : List Int × Slot => [.val (rowsP rows), .val (colsP cols), .val (vBool e), .own (q.1.map vInt), .val (vInt i), q.2]) (fun q k => [.val (rowsP rows), .val (colsP cols), .val (vBool e), .own (q.1.map vInt), .val (vInt i), .val (vInt k)])
        (fun q r => (∀ k ∈ r, 0 ≤ k ∧ k < rows.length) ∧ q.1.length + r.length ≤ 1000) (fun q r => .next [.val (rowsP rows), .val (colsP cols), .val (vBool e), .own ((innerGo cols e i r q.1).map vInt), .val (vInt i), innerK cols e i r q.2]) (fun q k => Asg.name 5 rfl hnd rfl) (fun q _ => rfl) (fun q k r hk => ?_) _ (st.1, st.2.2) ⟨fun k hk => ?_, ?_⟩))
    · obtain ⟨hk1, hk2⟩ := hk
      obtain ⟨k0, k1⟩ := hk1 k (.head _)
      obtain ⟨c1, c2⟩ := hcol i i0 i1
      obtain ⟨c3, c4⟩ := hcol k k0 k1
      cases hf : fartherB (colAt cols i) (colAt cols k) e with
      | true =>
        refine .inl ⟨(q.1 ++ [k], .val (vInt k)), Ex.cons (Ex1.iff (c := false) ((EvB.not (EvB.value (Ev.call (Ev.glob (L.fn (by kernel_rfl)) rfl) (L.keep (by kernel_rfl)) (.cons (Ev.sub (Ev.name 1 rfl rfl) (Ev.name 4 rfl rfl) (SubG.item i0 (by lia) c1)) (.cons (Ev.sub (Ev.name 1 rfl rfl) (Ev.name 5 rfl rfl) (SubG.item k0 (by lia) c3)) (.cons (Ev.name 2 rfl rfl) .nil))) (farther_fn L _ _ (c2.trans c4.symm) (by lia) e)) (TruG.bool _))).conv (by rw [hf]; rfl)) (fun h => nomatch h) (fun _ => Ex.nil))
          (Ex.one ((Ex1.append 3 rfl rfl (Ev.name 5 rfl rfl) (by rw [List.length_map, sizeLine_eq]; simp only [List.length_cons] at hk2; lia)).conv (by simp))), ⟨fun j hj => hk1 j (.tail _ hj), ?_⟩, ?_⟩
        · simp only [List.length_append, List.length_cons, List.length_nil] at hk2 ⊢; lia
        · simp only [innerGo, innerK, hf, if_true]
      | false =>
        refine .inr (.inl ⟨[.val (rowsP rows), .val (colsP cols), .val (vBool e), .own (q.1.map vInt), .val (vInt i), .val (vInt k)], Ex.stop (Ex1.iff (c := true) ((EvB.not (EvB.value (Ev.call (Ev.glob (L.fn (by kernel_rfl)) rfl) (L.keep (by kernel_rfl)) (.cons (Ev.sub (Ev.name 1 rfl rfl) (Ev.name 4 rfl rfl) (SubG.item i0 (by lia) c1)) (.cons (Ev.sub (Ev.name 1 rfl rfl) (Ev.name 5 rfl rfl) (SubG.item k0 (by lia) c3)) (.cons (Ev.name 2 rfl rfl) .nil))) (farther_fn L _ _ (c2.trans c4.symm) (by lia) e)) (TruG.bool _))).conv (by rw [hf]; rfl)) (fun _ => Ex.one Ex1.brk) (fun h => nomatch h)) (fun _ => Out.noConfusion), ?_⟩)
        simp only [innerGo, innerK, hf]
        rfl
    · have := mem_rangeL hk; lia
    · have := rangeL_length' (i + 1) rows.length (by lia)
      simp only [List.length_cons] at hi2; dsimp only; lia
  · obtain ⟨hi1, hi2⟩ := hi
    obtain ⟨i0, i1⟩ := hi1 i (.head _)
    refine ⟨fun j hj => hi1 j (.tail _ hj), ?_⟩
    have a1 := innerGo_length cols e i (rangeL (i + 1) rows.length 1) st.1
    have a2 := rangeL_length' (i + 1) rows.length (by lia)
    simp only [List.length_cons] at hi2
    show (innerGo cols e i (rangeL (i + 1) rows.length 1) st.1).length + 20 * r.length ≤ 1000
    lia
  · intro i hi; exact mem_rangeL hi
  · have := rangeL_length rows.length; simp; lia
  · refine Ex.freeze 3 rfl rfl ?_
    have key : ∀ (r : List Int) (st : List Int × Slot × Slot), (r.foldl (fun (st : List Int × Slot × Slot) i => (innerGo cols e i (rangeL (i + 1) rows.length 1) st.1, Slot.val (vInt i), innerK cols e i (rangeL (i + 1) rows.length 1) st.2.2)) st).1 = r.foldl (fun g i => innerGo cols e i (rangeL (i + 1) rows.length 1) g) st.1 := by
      intro r
      induction r with
      | nil => intro st; rfl
      | cons i r ih => intro st; exact ih _
    refine Ex.one (Ex1.ret (EvL.ev (EvL.compOf ["j"] [0, 3] [rowsP rows, intsP (goneOf cols e rows.length)] (by kernel_rfl) ⟨rfl, ?_, trivial⟩ (Ev.call (Ev.glob (g_range L) rfl) (KeepOk.type _) (.cons (Ev.call (Ev.glob (g_len L) rfl) (KeepOk.builtin _) (.cons (Ev.name 0 rfl rfl) .nil) hlen) .nil) FnG.range1) (IterG.range (by decide) (by decide) (by lia) (by decide)) ?_ ?_)))
    · show some (Slot.val (vLst (List.map vInt _))) = _
      rw [key]; rfl
    · have hnd' : (["j", "rows", "gone"] : List Str).Nodup := by decide
      rw [show (leftOf rows cols e).map vS = ((rangeL 0 rows.length 1).filter fun j => decide (j ∉ goneOf cols e rows.length)).map (fun j => vS (rows.getD j.toNat [])) from by unfold leftOf; rw [List.map_map]; rfl]
      refine CTurns.sel vInt (fun j => vS (rows.getD j.toNat [])) (fun o => [(match o with | some i => .val (vInt i) | none => .un), .val (rowsP rows), .val (intsP (goneOf cols e rows.length))]) (fun j => decide (j ∉ goneOf cols e rows.length)) (fun o i => Asg.name 0 rfl hnd' rfl) (rangeL 0 rows.length 1) none (fun j hj => EvIfs.one (EvB.cmp (Ev.name 0 rfl rfl) (Ev.name 2 rfl rfl) CmpG.notInI)) (fun j hj _ => ?_)
      have h := mem_rangeL hj
      exact Ev.sub (Ev.name 1 rfl rfl) (Ev.name 0 rfl rfl) (SubG.item h.1 (by lia) (by rw [List.getElem?_map, List.getD_eq_getElem?_getD, List.getElem?_eq_getElem (by lia)]; rfl))
    · unfold leftOf
      rw [List.length_map, List.length_map, sizeLine_eq]
      refine Nat.le_trans (List.length_filter_le _ _) ?_
      have := rangeL_length rows.length
      lia

end
end Mine

/-! F2i -/
set_option maxRecDepth 10000
namespace Mine
open PySem PySem.W PyProof.Rows

noncomputable def foldP : Option (List (List Nat)) → VP
  | none => vNone
  | some r => vLst (r.map vS)

section
variable {C : Cx} {P : Params} {mg : Str → Option Value} (L : LawG C (hd.heap_39 P) mg) {n : Nat}
include L

theorem g_str : GlobIs C "str" (.type "str") := L.bi (by kernel_rfl) (by decide +kernel) (by decide)

noncomputable abbrev leadsP (rows : List (List Nat)) : VP := vLst (rows.map vWs)
noncomputable abbrev foldSlots (rows : List (List Nat)) (moves : List Int) (e : Bool) (t : List Slot) : List Slot := .val (rowsP rows) :: .val (intsP moves) :: .val (vBool e) :: .val (leadsP rows) :: t

noncomputable def foldOut (moves : List Int) (e : Bool) : Option (List (List Nat)) ⊕ List (List Nat) → Out
  | .inl r => .ret (foldP r)
  | .inr r => .next (foldSlots r moves e [.un, .un, .un, .un, .un, .un, .un, .un, .un, .un, .un])

noncomputable def forBody : Stmt → List Stmt
  | .For _ _ b _ _ => b
  | _ => []
noncomputable def forTgt : Stmt → Expr
  | .For t _ _ _ _ => t
  | _ => default

noncomputable abbrev foldFr (P : Params) : Shape := ⟨(fnAt (hd.heap_39 P) 134).scope, ["rows", "moves", "equals", "leads", "move", "text", "begins", "spans", "line", "col", "ahead", "told", "prog", "found", "gone"], ["rows", "equals", "leads", "begins", "line", "col"]⟩

omit L in
theorem fold_nd : (["rows", "moves", "equals", "leads", "move", "text", "begins", "spans", "line", "col", "ahead", "told", "prog", "found", "gone"] : List Str).Nodup := by decide

noncomputable def foldEnd (moves : List Int) (e : Bool) : FoldR → Out
  | .done r => .ret (rowsP r)
  | .bad => .ret vNone
  | .next r => .next (foldSlots r moves e [.un, .un, .un, .un, .un, .un, .un, .un, .un, .un, .un])

set_option maxHeartbeats 8000000 in
theorem fold_tail (rows : List (List Nat)) (moves : List Int) (hr : RowsOk rows) (e : Bool) (f : Option (Int × Int)) (a : List (Int × Int)) (ha : a.length ≤ 1000) (s4 s6 s7 s8 s9 s11 s12 s14 : Slot) :
    Ex C (foldFr P) (n + 5) (foldSlots rows moves e [s4, .val (vS (joinOn 10 rows)), s6, s7, s8, s9, .val (vLst (a.map spanP)), s11, s12, .val (resP (hit2 P) f), s14]) ((forBody (stAt (bodyOf (fnAt (hd.heap_39 P) 134)) 1)).drop 10) (foldEnd moves e (foldTake rows f a)) := by
  rw [show (forBody (stAt (bodyOf (fnAt (hd.heap_39 P) 134)) 1)).drop 10 = [_, _, _, _] from rfl]
  rw [show foldFr P = ⟨Scope.mk _ _ _ _ _, _, _⟩ from rfl]
  have H : HitOk C (n + 5) (hit2 P) := hit_ok L
  have hnd := fold_nd
  have hN := hr.le
  have hlr : (rows.map vS).length = rows.length := List.length_map ..
  have hll : (rows.map vWs).length = rows.length := List.length_map ..
  cases f with
  | none =>
    exact Ex.stop (Ex1.iff (c := true) (EvB.bool (EvAll.or_cons (EvB.cmp (Ev.name 13 rfl rfl) Ev.none CmpG.isNone) (b := false) (fun h => nomatch h))) (fun _ => Ex.one (Ex1.ret Ev.none)) (fun h => nomatch h)) (fun _ => Out.noConfusion)
  | some m =>
    have hsz : (a.map spanP).length ≤ sizeLine := by rw [List.length_map, sizeLine_eq]; lia
    cases hd : decide ([m] = cut a (some (-1)) none) with
    | false =>
      have hne := of_decide_eq_false hd
      rw [show foldTake rows (some m) a = .bad from if_pos hne]
      exact Ex.stop (Ex1.iff (c := true) ((EvB.bool (EvAll.or_cons (EvB.cmp (Ev.name 13 rfl rfl) Ev.none (CmpG.isNone' (H.notNone m.1 m.2))) fun _ => EvAll.or_cons (EvB.cmp (EvL.ev (EvL.list (.cons (H.span (i := m.1) (j := m.2) (Ev.name 13 rfl rfl) (fun _ => rfl) rfl) .nil))) ((Ev.sub (Ev.name 10 rfl rfl) (Ev.slice (.some (Ev.neg Ev.int)) .none) (SubG.cutL hsz)).conv (by rw [cut_map])) (CmpG.neSpans (a := [m]))) fun _ => EvAll.or_nil)).conv (by rw [show (-(1 : Int)) = -1 from rfl, hd]; rfl)) (fun _ => Ex.one (Ex1.ret Ev.none)) (fun h => nomatch h)) (fun _ => Out.noConfusion)
    | true =>
      have he := of_decide_eq_true hd
      rw [show foldTake rows (some m) a = .next (without rows (goneAt rows m.1)) from if_neg (fun h => h he)]
      refine Ex.cons (Ex1.iff (c := false) ((EvB.bool (EvAll.or_cons (EvB.cmp (Ev.name 13 rfl rfl) Ev.none (CmpG.isNone' (H.notNone m.1 m.2))) fun _ => EvAll.or_cons (EvB.cmp (EvL.ev (EvL.list (.cons (H.span (i := m.1) (j := m.2) (Ev.name 13 rfl rfl) (fun _ => rfl) rfl) .nil))) ((Ev.sub (Ev.name 10 rfl rfl) (Ev.slice (.some (Ev.neg Ev.int)) .none) (SubG.cutL hsz)).conv (by rw [cut_map])) (CmpG.neSpans (a := [m]))) fun _ => EvAll.or_nil)).conv (by rw [show (-(1 : Int)) = -1 from rfl, hd]; rfl)) (fun h => nomatch h) (fun _ => Ex.nil)) ?_
      have htl := hr.text.2
      have hcut : (cut (joinOn 10 rows) none (some m.1)).length ≤ 200 := Nat.le_trans (cut_length _ _ _) htl
      have hspl := splitOn_length 10 (cut (joinOn 10 rows) none (some m.1))
      have hgone : ((((splitOn 10 (cut (joinOn 10 rows) none (some m.1))).map vS).length : Nat) : Int) - 1 = goneAt rows m.1 := by rw [List.length_map]; rfl
      refine Ex.cons (Ex1.assign (p := vInt (goneAt rows m.1)) 14 rfl hnd rfl ((Ev.bin (Ev.call (Ev.glob (g_len L) rfl) (KeepOk.builtin _) (.cons (Ev.methStr (Ev.sub (Ev.name 5 rfl rfl) (Ev.slice .none (.some (Ev.sub (H.span (i := m.1) (j := m.2) (Ev.name 13 rfl rfl) (fun _ => rfl) rfl) Ev.int (SubG.tup (by decide) (by decide) rfl)))) (SubG.cutS (by rw [sizeLine_eq]; lia))) (.cons (Ev.s [10] rfl) .nil) (FnG.split (by rw [sizeLine_eq]; lia)) PySem.F.slot_str_split PySem.F.type_str_split) .nil) (FnG.lenL (by rw [List.length_map, sizeLine_eq]; lia))) Ev.int BinG.sub).conv (by rw [hgone]))) ?_
      have hszr : (rows.map vS).length ≤ sizeLine := by rw [hlr, sizeLine_eq]; lia
      have hszl : (rows.map vWs).length ≤ sizeLine := by rw [hll, sizeLine_eq]; lia
      have c1 : ∀ {α : Type} (l : List α) (x y : Option Int), l.length ≤ 6 → (cut l x y).length ≤ 6 := fun l x y h => Nat.le_trans (cut_length _ _ _) h
      refine Ex.cons (Ex1.assign (p := rowsP (without rows (goneAt rows m.1))) 0 rfl hnd rfl ((EvL.ev (EvL.add (Ev.sub (Ev.name 0 rfl rfl) (Ev.slice .none (.some (Ev.name 14 rfl rfl))) (SubG.cutL hszr)) (Ev.sub (Ev.name 0 rfl rfl) (Ev.slice (.some (Ev.bin (Ev.name 14 rfl rfl) Ev.int BinG.add)) .none) (SubG.cutL hszr)) ?_)).conv ?_)) ?_
      · have := c1 (rows.map vS) none (some (goneAt rows m.1)) (by lia); have := c1 (rows.map vS) (some (goneAt rows m.1 + 1)) none (by lia)
        rw [sizeLine_eq]; lia
      · unfold without; rw [cut_map, cut_map, ← List.map_append]
      refine Ex.forgetOut (Ex.one (Ex1.assign (p := leadsP (without rows (goneAt rows m.1))) 3 rfl hnd rfl ((EvL.ev (EvL.add (Ev.sub (Ev.name 3 rfl rfl) (Ev.slice .none (.some (Ev.name 14 rfl rfl))) (SubG.cutL hszl)) (Ev.sub (Ev.name 3 rfl rfl) (Ev.slice (.some (Ev.bin (Ev.name 14 rfl rfl) Ev.int BinG.add)) .none) (SubG.cutL hszl)) ?_)).conv ?_))) ?_
      · have := c1 (rows.map vWs) none (some (goneAt rows m.1)) (by lia); have := c1 (rows.map vWs) (some (goneAt rows m.1 + 1)) none (by lia)
        rw [sizeLine_eq]; lia
      · unfold without; rw [cut_map, cut_map, ← List.map_append]
      · exact ⟨.inl rfl, .inl rfl, .inl rfl, .inl rfl, .inr rfl, .inr rfl, .inr rfl, .inr rfl, .inr rfl, .inr rfl, .inr rfl, .inr rfl, .inr rfl, .inr rfl, .inr rfl, trivial⟩

end
end Mine

/-! F2j -/
set_option maxRecDepth 10000
namespace Mine
open PySem PySem.W PyProof.Rows

section
variable {C : Cx} {P : Params} {mg : Str → Option Value} (L : LawG C (hd.heap_39 P) mg) {n : Nat}
include L

set_option maxHeartbeats 16000000 in
/-- one move -/
theorem fold_step (T1 : MakerOk C mg (hitTab (hd.heap_39 P) 115 114 110)) (T2 : MakerOk C mg (progTab (hd.heap_39 P) 122 121 117)) (rows : List (List Nat)) (moves : List Int) (hr : RowsOk rows) (m : Int) (hm : 0 ≤ m ∧ m < 1000) (e : Bool) :
    Ex C (foldFr P) (n + 5) (foldSlots rows moves e [.val (vInt m), .un, .un, .un, .un, .un, .un, .un, .un, .un, .un]) (forBody (stAt (bodyOf (fnAt (hd.heap_39 P) 134)) 1))
      (foldEnd moves e (foldStep rows m e)) := by
  have htail := fold_tail (n := n) L rows moves hr e
  rw [show (forBody (stAt (bodyOf (fnAt (hd.heap_39 P) 134)) 1)).drop 10 = [_, _, _, _] from rfl] at htail
  rw [show forBody (stAt (bodyOf (fnAt (hd.heap_39 P) 134)) 1) = [_, _, _, _, _, _, _, _, _, _, _, _, _, _] from rfl]
  rw [show foldFr P = ⟨Scope.mk _ _ _ _ _, _, _⟩ from rfl] at htail ⊢
  have H : HitOk C (n + 5) (hit2 P) := hit_ok L
  have hnd := fold_nd
  have hN := hr.le
  have hN1 := hr.pos
  have hlr : (rows.map vS).length = rows.length := List.length_map ..
  have hll : (rows.map vWs).length = rows.length := List.length_map ..
  have htx := hr.text
  have h63 : (rows.length : Int) < 2 ^ 63 := Int.lt_of_le_of_lt (Int.ofNat_le.mpr hN) (by decide)
  have hpos : (0 : Int) < rows.length := Int.ofNat_lt.mpr hN1
  have h40 : -(2 ^ 40) ≤ (rows.length : Int) ∧ (rows.length : Int) < 2 ^ 40 := ⟨Int.le_trans (by decide) (Int.le_of_lt hpos), Int.lt_of_le_of_lt (Int.ofNat_le.mpr hN) (by decide)⟩
  have hszr : (rows.map vS).length ≤ sizeLine := by rw [hlr, sizeLine_eq]; lia
  have hlen : ∀ {k : Nat}, FnG C k (.builtin "len") [rowsP rows] (vInt rows.length) := fun {k} => (FnG.lenL hszr).conv (by rw [hlr])
  have hrow : ∀ k : Int, 0 ≤ k → k < rows.length → (rows.map vS)[k.toNat]? = some (vS (rowAt rows k)) ∧ (rowAt rows k).length ≤ 30 := fun k h0 h1 => by
    have hi : k.toNat < rows.length := by lia
    unfold rowAt
    rw [List.getElem?_map, List.getD_eq_getElem?_getD, List.getElem?_eq_getElem hi]
    exact ⟨rfl, hr.len _ (List.getElem_mem hi)⟩
  have hlead : ∀ k : Int, 0 ≤ k → k < rows.length → (rows.map vWs)[k.toNat]? = some (vWs (rowAt rows k)) := fun k h0 h1 => by
    have hi : k.toNat < rows.length := by lia
    unfold rowAt
    rw [List.getElem?_map, List.getD_eq_getElem?_getD, List.getElem?_eq_getElem hi]; rfl
  have hbeg : ∀ k : Int, 0 ≤ k → k < rows.length → ((rangeL 0 rows.length 1).map fun k => vInt (beginAt rows k))[k.toNat]? = some (vInt (beginAt rows k)) := fun k h0 h1 => by
    rw [List.getElem?_map, rangeL_get k h0 h1]; rfl
  refine Ex.cons (Ex1.assign 5 rfl hnd rfl (Ev.methStr (Ev.s [10] rfl) (.cons (Ev.name 0 rfl rfl) .nil) (FnG.join (by rw [sizeLine_eq]; lia)) PySem.F.slot_str_join PySem.F.type_str_join)) ?_
  refine Ex.cons (Ex1.assignComp 6 ["k"] [0] [rowsP rows] rfl hnd rfl (by kernel_rfl) ⟨rfl, trivial⟩ (Ev.call (Ev.glob (g_range L) rfl) (KeepOk.type _) (.cons (Ev.call (Ev.glob (g_len L) rfl) (KeepOk.builtin _) (.cons (Ev.name 0 rfl rfl) .nil) hlen) .nil) FnG.range1) (IterG.range (by decide) (by decide) h40 (by decide))
    (CTurns.map vInt (fun k => vInt (beginAt rows k)) (fun o => [(match o with | some k => .val (vInt k) | none => .un), .val (rowsP rows)]) (fun o k => Asg.name 0 rfl (by decide) rfl) _ none (fun k hk => ?_)) ?_) (Ex.freeze 6 rfl rfl ?_)
  · have hk' := mem_rangeL hk
    have hcl : (cut rows none (some k)).length ≤ 6 := Nat.le_trans (cut_length _ _ _) hN
    have hs1 := sum_le (L := cut rows none (some k) ++ [[]]) (k := 30) (fun r hr' => by
      rcases List.mem_append.mp hr' with q | q
      · exact hr.len r (cut_sub _ _ _ r q)
      · rw [List.mem_singleton.mp q]; simp)
    have hs2 := joinOn_length 10 (cut rows none (some k) ++ [[]])
    have hs3 : (cut rows none (some k) ++ [[]]).length ≤ 7 := by rw [List.length_append]; simp only [List.length_cons, List.length_nil]; lia
    refine Ev.call (Ev.glob (g_len L) rfl) (KeepOk.builtin _) (.cons (Ev.methStr (Ev.s [10] rfl) (.cons ((EvL.ev (EvL.add (Ev.sub (Ev.name 1 rfl rfl) (Ev.slice .none (.some (Ev.name 0 rfl rfl))) (SubG.cutL hszr)) (EvL.ev (EvL.list (.cons (Ev.s [] rfl) .nil))) ?_)).conv (q := vLst ((cut rows none (some k) ++ [[]]).map vS)) ?_) .nil) (FnG.join ?_) PySem.F.slot_str_join PySem.F.type_str_join) .nil) (FnG.lenS ?_)
    · have := cut_length (rows.map vS) none (some k)
      rw [sizeLine_eq]; simp only [List.length_cons, List.length_nil]; lia
    · rw [cut_map, List.map_append]; rfl
    · rw [sizeLine_eq]; lia
    · rw [sizeLine_eq]; lia
  · rw [List.length_map, rangeL_length, sizeLine_eq]; lia
  · have hspL : (spansOf rows e).length ≤ 6 := by
      unfold spansOf
      rw [List.length_map]
      refine Nat.le_trans (List.length_filter_le _ _) ?_
      have := rangeL_length' 1 rows.length (by decide)
      lia
    refine Ex.cons ((Ex1.assignComp 7 ["k"] [6, 0, 3, 2] [vLst ((rangeL 0 rows.length 1).map fun k => vInt (beginAt rows k)), rowsP rows, leadsP rows, vBool e] rfl hnd rfl (by kernel_rfl) ⟨rfl, rfl, rfl, rfl, trivial⟩ (Ev.call (Ev.glob (g_range L) rfl) (KeepOk.type _) (.cons Ev.int (.cons (Ev.call (Ev.glob (g_len L) rfl) (KeepOk.builtin _) (.cons (Ev.name 0 rfl rfl) .nil) hlen) .nil)) FnG.range2) (IterG.range (by decide) (by decide) h40 (by decide))
      (CTurns.sel vInt (fun k => spanP (beginAt rows k, beginAt rows k + (rowAt rows k).length)) (fun o => [(match o with | some k => .val (vInt k) | none => .un), .val (vLst ((rangeL 0 rows.length 1).map fun k => vInt (beginAt rows k))), .val (rowsP rows), .val (leadsP rows), .val (vBool e)]) (fun k => mayGo (wsOf (rowAt rows (k - 1))) (wsOf (rowAt rows k)) e) (fun o k => Asg.name 0 rfl (by decide) rfl) _ none (fun k hk => ?_) (fun k hk _ => ?_)) ?_).conv (o' := .next (foldSlots rows moves e [.val (vInt m), .val (vS (joinOn 10 rows)), .val (vLst ((rangeL 0 rows.length 1).map fun k => vInt (beginAt rows k))), .own ((spansOf rows e).map spanP), .un, .un, .un, .un, .un, .un, .un])) ?_) (Ex.freeze 7 rfl rfl ?_)
    · have hk' := mem_rangeL hk
      have k0 : 0 ≤ k := Int.le_trans (by decide) hk'.1
      have m0 : 0 ≤ k - 1 := Int.sub_nonneg_of_le hk'.1
      have ml : k - 1 < rows.length := Int.lt_of_le_of_lt (Int.sub_le_self k (by decide)) hk'.2
      have r1 := hrow (k - 1) m0 ml
      have r2 := hrow k k0 hk'.2
      refine EvIfs.one (EvB.value (Ev.call (Ev.glob (L.fn (by kernel_rfl)) rfl) (L.keep (by kernel_rfl)) (.cons (Ev.sub (Ev.name 3 rfl rfl) (Ev.bin (Ev.name 0 rfl rfl) Ev.int BinG.sub) (SubG.item m0 (Int.lt_trans ml h63) (hlead (k - 1) m0 ml))) (.cons (Ev.sub (Ev.name 3 rfl rfl) (Ev.name 0 rfl rfl) (SubG.item k0 (Int.lt_trans hk'.2 h63) (hlead k k0 hk'.2))) (.cons (Ev.name 4 rfl rfl) .nil))) ((mayGo_fn (n := 0) L _ _ _ _ (wsOf_small (Nat.le_trans r1.2 (by decide))) (wsOf_small (Nat.le_trans r2.2 (by decide))) e).le (Nat.le_add_left _ _))) (TruG.bool _))
    · have hk' := mem_rangeL hk
      have k0 : 0 ≤ k := Int.le_trans (by decide) hk'.1
      have r2 := hrow k k0 hk'.2
      exact Ev.tuple (.cons (Ev.sub (Ev.name 1 rfl rfl) (Ev.name 0 rfl rfl) (SubG.item k0 (Int.lt_trans hk'.2 h63) (hbeg k k0 hk'.2))) (.cons (Ev.bin (Ev.sub (Ev.name 1 rfl rfl) (Ev.name 0 rfl rfl) (SubG.item k0 (Int.lt_trans hk'.2 h63) (hbeg k k0 hk'.2))) (Ev.call (Ev.glob (g_len L) rfl) (KeepOk.builtin _) (.cons (Ev.sub (Ev.name 2 rfl rfl) (Ev.name 0 rfl rfl) (SubG.item k0 (Int.lt_trans hk'.2 h63) r2.1)) .nil) (FnG.lenS (by rw [sizeLine_eq]; lia))) BinG.add) .nil))
    · rw [List.length_map, sizeLine_eq]
      refine Nat.le_trans (List.length_filter_le _ _) ?_
      have := rangeL_length' 1 rows.length (by decide)
      lia
    · unfold spansOf; rw [List.map_map]; rfl
    have hl0 : 1 ≤ lineOf rows m ∧ lineOf rows m ≤ rows.length := by
      have h1 := Int.emod_nonneg m (b := rows.length) (by lia)
      have h2 := Int.emod_lt_of_pos m (b := rows.length) (by lia)
      unfold lineOf; lia
    have l0 : 0 ≤ lineOf rows m - 1 := Int.sub_nonneg_of_le hl0.1
    have ll : lineOf rows m - 1 < rows.length := Int.sub_one_lt_of_le hl0.2
    have l63 := Int.lt_trans ll h63
    have hrl := hrow (lineOf rows m - 1) l0 ll
    have hbl := hbeg (lineOf rows m - 1) l0 ll
    have hc0 : 0 ≤ colOf rows m ∧ colOf rows m ≤ 30 := by
      have h1 := Int.emod_nonneg (m / rows.length) (b := ((rowAt rows (lineOf rows m - 1)).length : Int) + 1) (by lia)
      have h2 := Int.emod_lt_of_pos (m / rows.length) (b := ((rowAt rows (lineOf rows m - 1)).length : Int) + 1) (by lia)
      unfold colOf; lia
    refine Ex.cons (Ex1.assign (p := vInt (lineOf rows m)) 8 rfl hnd rfl (Ev.bin (Ev.bin (Ev.name 4 rfl rfl) (Ev.call (Ev.glob (g_len L) rfl) (KeepOk.builtin _) (.cons (Ev.name 0 rfl rfl) .nil) hlen) (BinG.mod hpos)) Ev.int BinG.add)) ?_
    refine Ex.cons (Ex1.assign (p := vInt (colOf rows m)) 9 rfl hnd rfl (Ev.bin (Ev.bin (Ev.name 4 rfl rfl) (Ev.call (Ev.glob (g_len L) rfl) (KeepOk.builtin _) (.cons (Ev.name 0 rfl rfl) .nil) hlen) (BinG.div hpos (Int.lt_of_le_of_lt (Int.ofNat_le.mpr hN) (by decide)))) (Ev.bin (Ev.call (Ev.glob (g_len L) rfl) (KeepOk.builtin _) (.cons (Ev.sub (Ev.name 0 rfl rfl) (Ev.bin (Ev.name 8 rfl rfl) Ev.int BinG.sub) (SubG.item l0 l63 hrl.1)) .nil) (FnG.lenS (by rw [sizeLine_eq]; lia))) Ev.int BinG.add) (BinG.mod (Int.lt_add_one_of_le (Int.natCast_nonneg _))))) ?_
    refine Ex.cons (Ex1.assignComp 10 ["span"] [6, 8, 9] [vLst ((rangeL 0 rows.length 1).map fun k => vInt (beginAt rows k)), vInt (lineOf rows m), vInt (colOf rows m)] rfl hnd rfl (by kernel_rfl) ⟨rfl, rfl, rfl, trivial⟩ (Ev.name 7 rfl rfl) IterG.list
      (CTurns.sel spanP spanP (fun o => [(match o with | some s => .val (spanP s) | none => .un), .val (vLst ((rangeL 0 rows.length 1).map fun k => vInt (beginAt rows k))), .val (vInt (lineOf rows m)), .val (vInt (colOf rows m))]) (fun s => decide (s.2 ≤ placeOf rows m)) (fun o k => Asg.name 0 rfl (by decide) rfl) _ none (fun s hs => ?_) (fun s hs _ => Ev.name 0 rfl rfl)) ?_) (Ex.freeze 10 rfl rfl ?_)
    · exact EvIfs.one (EvB.cmp (Ev.sub (Ev.name 0 rfl rfl) Ev.int (SubG.tup (by decide) (by decide) rfl)) (Ev.bin (Ev.sub (Ev.name 1 rfl rfl) (Ev.bin (Ev.name 2 rfl rfl) Ev.int BinG.sub) (SubG.item l0 l63 hbl)) (Ev.name 3 rfl rfl) BinG.add) CmpG.le)
    · rw [List.length_map, sizeLine_eq]
      refine Nat.le_trans (List.length_filter_le _ _) ?_
      lia
    have hd1 := dig_length (i := lineOf rows m) (by lia) (by lia)
    have hd2 := dig_length (i := colOf rows m) (by lia) (by lia)
    refine Ex.cons (Ex1.assign 11 rfl hnd rfl (Ev.call (Ev.glob (L.fn (by kernel_rfl)) rfl) (L.keep (by kernel_rfl)) (.cons (Ev.bin (Ev.bin (Ev.call (Ev.glob (g_str L) rfl) (KeepOk.type _) (.cons (Ev.name 8 rfl rfl) .nil) (FnG.str (by lia) (by lia))) (Ev.s [46] rfl) (BinG.addS (by rw [sizeLine_eq]; simp only [List.length_cons, List.length_nil]; lia))) (Ev.call (Ev.glob (g_str L) rfl) (KeepOk.type _) (.cons (Ev.name 9 rfl rfl) .nil) (FnG.str (by lia) (by lia))) (BinG.addS (by rw [sizeLine_eq, List.length_append]; simp only [List.length_cons, List.length_nil]; lia))) .nil)
      ((glc_fn (n := 0) L (lineOf rows m) (colOf rows m) (by lia) (by lia) (by lia) (by lia)).le (Nat.le_add_left _ _)))) ?_
    refine Ex.cons (Ex1.assign 12 rfl hnd rfl (Ev.call (Ev.glob (L.fn (by kernel_rfl)) rfl) (L.keep (by kernel_rfl)) (.cons (Ev.name 5 rfl rfl) (.cons (Ev.name 7 rfl rfl) .nil)) ((prog_fn (n := 0) L T2 (joinOn 10 rows) (spansOf rows e)).le (Nat.le_add_left _ _)))) ?_
    refine Ex.cons (Ex1.assign (p := resP (hit2 P) (srev (nxS (spansOf rows e)) (placeOf rows m))) 13 rfl hnd rfl (Ev.call (Ev.glob (L.fn (by kernel_rfl)) rfl) (L.keep (by kernel_rfl)) (.cons (Ev.name 12 rfl rfl) (.cons (Ev.name 5 rfl rfl) (.cons (Ev.bin (Ev.sub (Ev.name 6 rfl rfl) (Ev.bin (Ev.sub (Ev.name 11 rfl rfl) Ev.int (SubG.tup (by decide) (by decide) rfl)) Ev.int BinG.sub) (SubG.item l0 l63 hbl)) (Ev.sub (Ev.name 11 rfl rfl) Ev.int (SubG.tup (by decide) (by decide) rfl)) BinG.add) .nil))) ((rev2_fn (n := 0) L T1 (joinOn 10 rows) (spansOf rows e) (placeOf rows m)).le (Nat.le_add_left _ _)))) ?_
    have hA : (aheadOf (spansOf rows e) (placeOf rows m)).length ≤ 1000 := by
      unfold aheadOf
      refine Nat.le_trans (List.length_filter_le _ _) ?_
      lia
    unfold foldStep
    generalize srev (nxS (spansOf rows e)) (placeOf rows m) = f1
    cases f1 with
    | some mm =>
      rw [if_neg (by rintro ⟨h, _⟩; cases h)]
      refine Ex.cons (Ex1.iff (c := false) (EvB.bool (EvAll.and_cons (EvB.cmp (Ev.name 13 rfl rfl) Ev.none (CmpG.isNone' (H.notNone mm.1 mm.2))) (b := false) (fun h => nomatch h))) (fun h => nomatch h) (fun _ => Ex.nil)) ?_
      exact htail (some mm) (aheadOf (spansOf rows e) (placeOf rows m)) hA _ _ _ _ _ _ _ _
    | none =>
      by_cases ha : aheadOf (spansOf rows e) (placeOf rows m) = []
      · rw [if_pos ⟨rfl, ha⟩]
        have hda : decide (aheadOf (spansOf rows e) (placeOf rows m) = []) = true := decide_eq_true ha
        have htl : ((joinOn 10 rows).length : Int) ≤ 200 := by lia
        by_cases h2 : srev (nxS (spansOf rows e)) (joinOn 10 rows).length = none ∧ spansOf rows e = []
        · rw [if_pos h2]
          refine Ex.stop (Ex1.iff (c := true) ((EvB.bool (EvAll.and_cons (EvB.cmp (Ev.name 13 rfl rfl) Ev.none CmpG.isNone) fun _ => EvAll.and_cons (EvB.cmp (Ev.name 10 rfl rfl) (EvL.ev (EvL.list .nil)) (CmpG.eqSpans (a := aheadOf (spansOf rows e) (placeOf rows m)) (b := []))) fun _ => EvAll.and_nil)).conv (by rw [hda]; rfl)) (fun _ => ?_) (fun h => nomatch h)) (fun _ => Out.noConfusion)
          refine Ex.cons (Ex1.assign (p := vNone) 13 rfl hnd rfl (Ev.call (Ev.glob (L.fn (by kernel_rfl)) rfl) (L.keep (by kernel_rfl)) (.cons (Ev.name 12 rfl rfl) (.cons (Ev.name 5 rfl rfl) (.cons (Ev.call (Ev.glob (g_len L) rfl) (KeepOk.builtin _) (.cons (Ev.name 5 rfl rfl) .nil) (FnG.lenS (by rw [sizeLine_eq]; lia))) .nil))) (((rev2_fn (n := 0) L T1 (joinOn 10 rows) (spansOf rows e) (joinOn 10 rows).length).conv (by rw [h2.1]; rfl)).le (Nat.le_add_left _ _)))) ?_
          refine Ex.cons (Ex1.assign 10 rfl hnd rfl (Ev.name 7 rfl rfl)) ?_
          exact Ex.one (Ex1.iff (c := true) ((EvB.bool (EvAll.and_cons (EvB.cmp (Ev.name 13 rfl rfl) Ev.none CmpG.isNone) fun _ => EvAll.and_cons (EvB.cmp (Ev.name 10 rfl rfl) (EvL.ev (EvL.list .nil)) (CmpG.eqSpans (a := spansOf rows e) (b := []))) fun _ => EvAll.and_nil)).conv (by rw [decide_eq_true h2.2]; rfl)) (fun _ => Ex.one (Ex1.ret (Ev.name 0 rfl rfl))) (fun h => nomatch h))
        · rw [if_neg h2]
          refine Ex.cons (vals' := foldSlots rows moves e [.val (vInt m), .val (vS (joinOn 10 rows)), .val (vLst ((rangeL 0 rows.length 1).map fun k => vInt (beginAt rows k))), .val (vLst ((spansOf rows e).map spanP)), .val (vInt (lineOf rows m)), .val (vInt (colOf rows m)), .val (vLst ((spansOf rows e).map spanP)), .val (vTup [vInt (lineOf rows m), vInt (colOf rows m)]), .val (prog2 P (joinOn 10 rows) (spansOf rows e)), .val (resP (hit2 P) (srev (nxS (spansOf rows e)) (joinOn 10 rows).length)), .un])
            (Ex1.iff (c := true) ((EvB.bool (EvAll.and_cons (EvB.cmp (Ev.name 13 rfl rfl) Ev.none CmpG.isNone) fun _ => EvAll.and_cons (EvB.cmp (Ev.name 10 rfl rfl) (EvL.ev (EvL.list .nil)) (CmpG.eqSpans (a := aheadOf (spansOf rows e) (placeOf rows m)) (b := []))) fun _ => EvAll.and_nil)).conv (by rw [hda]; rfl)) (fun _ => ?_) (fun h => nomatch h)) (htail _ _ (by lia) _ _ _ _ _ _ _ _)
          refine Ex.cons (Ex1.assign 13 rfl hnd rfl (Ev.call (Ev.glob (L.fn (by kernel_rfl)) rfl) (L.keep (by kernel_rfl)) (.cons (Ev.name 12 rfl rfl) (.cons (Ev.name 5 rfl rfl) (.cons (Ev.call (Ev.glob (g_len L) rfl) (KeepOk.builtin _) (.cons (Ev.name 5 rfl rfl) .nil) (FnG.lenS (by rw [sizeLine_eq]; lia))) .nil))) ((rev2_fn (n := 0) L T1 (joinOn 10 rows) (spansOf rows e) (joinOn 10 rows).length).le (Nat.le_add_left _ _)))) ?_
          refine Ex.cons (Ex1.assign 10 rfl hnd rfl (Ev.name 7 rfl rfl)) ?_
          cases hf2 : srev (nxS (spansOf rows e)) (joinOn 10 rows).length with
          | some m2 => exact Ex.one (Ex1.iff (c := false) (EvB.bool (EvAll.and_cons (EvB.cmp (Ev.name 13 rfl rfl) Ev.none (CmpG.isNone' (H.notNone m2.1 m2.2))) (b := false) (fun h => nomatch h))) (fun h => nomatch h) (fun _ => Ex.nil))
          | none =>
            have h3 : spansOf rows e ≠ [] := fun q => h2 ⟨hf2, q⟩
            exact Ex.one (Ex1.iff (c := false) ((EvB.bool (EvAll.and_cons (EvB.cmp (Ev.name 13 rfl rfl) Ev.none CmpG.isNone) fun _ => EvAll.and_cons (EvB.cmp (Ev.name 10 rfl rfl) (EvL.ev (EvL.list .nil)) (CmpG.eqSpans (a := spansOf rows e) (b := []))) fun _ => EvAll.and_nil)).conv (by rw [decide_eq_false h3]; rfl)) (fun h => nomatch h) (fun _ => Ex.nil))
      · rw [if_neg (fun h => ha h.2)]
        refine Ex.cons (Ex1.iff (c := false) ((EvB.bool (EvAll.and_cons (EvB.cmp (Ev.name 13 rfl rfl) Ev.none CmpG.isNone) fun _ => EvAll.and_cons (EvB.cmp (Ev.name 10 rfl rfl) (EvL.ev (EvL.list .nil)) (CmpG.eqSpans (a := aheadOf (spansOf rows e) (placeOf rows m)) (b := []))) fun _ => EvAll.and_nil)).conv (by rw [decide_eq_false ha]; rfl)) (fun h => nomatch h) (fun _ => Ex.nil)) ?_
        exact htail none (aheadOf (spansOf rows e) (placeOf rows m)) hA _ _ _ _ _ _ _ _

end
end Mine

/-! F2k -/
set_option maxRecDepth 10000
namespace Mine
open PySem PySem.W PyProof.Rows

section
variable {C : Cx} {P : Params} {mg : Str → Option Value} (L : LawG C (hd.heap_39 P) mg) {n : Nat}
include L

set_option maxHeartbeats 4000000 in
theorem fold_turns (T1 : MakerOk C mg (hitTab (hd.heap_39 P) 115 114 110)) (T2 : MakerOk C mg (progTab (hd.heap_39 P) 122 121 117)) (rows : List (List Nat)) (moves : List Int) (hr : RowsOk rows) (hm : ∀ m ∈ moves, 0 ≤ m ∧ m < 1000) (e : Bool) (o : Out)
    (ho : foldOut moves e (foldRun e rows moves) = o) :
    Turns C (foldFr P) (n + 5) (forTgt (stAt (bodyOf (fnAt (hd.heap_39 P) 134)) 1)) (forBody (stAt (bodyOf (fnAt (hd.heap_39 P) 134)) 1)) (foldSlots rows moves e [.un, .un, .un, .un, .un, .un, .un, .un, .un, .un, .un]) (moves.map vInt) o := by
  subst ho
  refine Turns.run vInt (fun st : List (List Nat) => foldSlots st moves e [.un, .un, .un, .un, .un, .un, .un, .un, .un, .un, .un]) (fun st m => foldSlots st moves e [.val (vInt m), .un, .un, .un, .un, .un, .un, .un, .un, .un, .un])
    (fun st ms => RowsOk st ∧ ∀ m ∈ ms, 0 ≤ m ∧ m < 1000) (fun st ms => foldOut moves e (foldRun e st ms)) (fun st m => Asg.name 4 rfl fold_nd rfl) (fun st _ => rfl) (fun st m ms hi => ?_) moves rows ⟨hr, hm⟩
  have h := fold_step (n := n) L T1 T2 st moves hi.1 m (hi.2 m (.head _)) e
  cases hs : foldStep st m e with
  | done r =>
    rw [hs] at h
    exact .inr (.inr ⟨_, h, by simp only [foldRun, hs]; rfl⟩)
  | bad =>
    rw [hs] at h
    exact .inr (.inr ⟨_, h, by simp only [foldRun, hs]; rfl⟩)
  | next r =>
    rw [hs] at h
    refine .inl ⟨r, h, ⟨foldStep_ok hi.1 hs, fun x hx => hi.2 x (.tail _ hx)⟩, by simp only [foldRun, hs]⟩

set_option maxHeartbeats 16000000 in
theorem fold_fn (T1 : MakerOk C mg (hitTab (hd.heap_39 P) 115 114 110)) (T2 : MakerOk C mg (progTab (hd.heap_39 P) 122 121 117)) (rows : List (List Nat)) (moves : List Int) (hr : RowsOk rows) (hm : ∀ m ∈ moves, 0 ≤ m ∧ m < 1000) (e : Bool) :
    FnG C (n + 6) (.ref 134) [rowsP rows, intsP moves, vBool e] (foldP (foldOf rows moves e)) := by
  refine FnG.top (n := n + 5) (L.def_ (xs := ["rows", "moves", "equals"]) (names := ["rows", "moves", "equals", "leads", "move", "text", "begins", "spans", "line", "col", "ahead", "told", "prog", "found", "gone"]) (cells := ["rows", "equals", "leads", "begins", "line", "col"]) (by kernel_rfl) (by kernel_rfl) (bind_3 fun a b c => by kernel_rfl)) rfl (o := .ret (foldP (foldOf rows moves e))) ?_ (.ret _)
  rw [show fnAt (hd.heap_39 P) 134 = FuncData.mk _ _ _ _ _ _ _ _ _ _ _ _ _ _ _ from rfl]
  dsimp only [bodyOf, startVals, List.map, List.append, List.replicate, List.length]
  have hnd : (["rows", "moves", "equals", "leads", "move", "text", "begins", "spans", "line", "col", "ahead", "told", "prog", "found", "gone"] : List Str).Nodup := by decide
  refine Ex.cons (Ex1.assignComp 3 ["row"] [] [] rfl hnd rfl (by kernel_rfl) trivial (Ev.name 0 rfl rfl) IterG.list (CTurns.map vS vWs (fun o => [(match o with | some r => .val (vS r) | none => .un)]) (fun o r => Asg.name 0 rfl (by decide) rfl) rows none (fun r h => ?_)) ?_) (Ex.freeze 3 rfl rfl ?_)
  · exact Ev.call (Ev.glob (g_ws L) rfl) (KeepOk.cls L.X (by kernel_rfl)) (.cons (Ev.name 0 rfl rfl) .nil) ((make_ws (n := 0) L r (by have := hr.len r h; lia)).le (by lia))
  · rw [List.length_map, sizeLine_eq]; have := hr.le; lia
  · cases hF : foldRun e rows moves with
    | inr r =>
      rw [show foldOf rows moves e = none from by unfold foldOf; rw [hF]]
      refine Ex.cons (Ex1.for_ (Ev.name 1 rfl rfl) IterG.list (fold_turns L T1 T2 rows moves hr hm e (.next (foldSlots r moves e [.un, .un, .un, .un, .un, .un, .un, .un, .un, .un, .un])) ?_)) (Ex.one (Ex1.ret Ev.none))
      rw [hF]; rfl
    | inl r =>
      rw [show foldOf rows moves e = r from by unfold foldOf; rw [hF]]
      refine Ex.stop (Ex1.for_ (Ev.name 1 rfl rfl) IterG.list (fold_turns L T1 T2 rows moves hr hm e (.ret (foldP r)) ?_)) (fun _ => Out.noConfusion)
      rw [hF]; rfl

end
end Mine

/-! F2l -/
set_option maxRecDepth 10000
namespace Mine
open PySem PySem.W PyProof.Rows

section
variable {C : Cx} {P : Params} {mg : Str → Option Value} (L : LawG C (hd.heap_39 P) mg) {n : Nat}
include L

theorem g_sum : GlobIs C "sum" (.builtin "sum") := L.bi (by kernel_rfl) (by decide +kernel) (by decide)

set_option maxHeartbeats 16000000 in
theorem law_code (T1 : MakerOk C mg (hitTab (hd.heap_39 P) 115 114 110)) (T2 : MakerOk C mg (progTab (hd.heap_39 P) 122 121 117)) (xs : List Int) (hx : xs.length ≤ 63)
    (h1 : foldOf (rows2 (values2 xs)) (firsts2 xs) false = some (leftOf (rows2 (values2 xs)) (cols2 (values2 xs)) false)) (h2 : foldOf (rows2 (values2 xs)) (lasts2 xs) true = some (leftOf (rows2 (values2 xs)) (cols2 (values2 xs)) true)) :
    CodeG C (n + 7) 156 [intsP xs] (vBool true) := by
  refine CodeG.top (n := n + 6) (L.def_ (xs := ["script"]) (names := ["script", "values", "backwards", "firsts", "lasts", "rows", "columns"]) (cells := ["script", "values"]) (by kernel_rfl) (by kernel_rfl) (bind_1 fun a => by kernel_rfl)) rfl (o := .ret (vBool true)) ?_ (.ret _)
  rw [show fnAt (hd.heap_39 P) 156 = FuncData.mk _ _ _ _ _ _ _ _ _ _ _ _ _ _ _ from rfl]
  dsimp only [bodyOf, startVals, List.map, List.append, List.replicate, List.length]
  have hnd : (["script", "values", "backwards", "firsts", "lasts", "rows", "columns"] : List Str).Nodup := by decide
  have hlx : (xs.map vInt).length = xs.length := List.length_map ..
  have hszx : (xs.map vInt).length ≤ sizeLine := by rw [hlx, sizeLine_eq]; lia
  have hxl : -(2 ^ 40) ≤ (xs.length : Int) ∧ (xs.length : Int) < 2 ^ 40 := ⟨Int.le_trans (by decide) (Int.natCast_nonneg _), Int.lt_of_le_of_lt (Int.ofNat_le.mpr hx) (by decide)⟩
  have hlen : ∀ {k : Nat}, FnG C k (.builtin "len") [intsP xs] (vInt xs.length) := fun {k} => (FnG.lenL hszx).conv (by rw [hlx])
  refine Ex.cons (Ex1.assignComp 1 ["k"] [0] [intsP xs] rfl hnd rfl (by kernel_rfl) ⟨rfl, trivial⟩ (Ev.call (Ev.glob (g_range L) rfl) (KeepOk.type _) (.cons Ev.int .nil) FnG.range1) (IterG.range (by decide) (by decide) (by decide) (by decide))
    (CTurns.map vInt (fun k => vInt (sumAt xs 6 k % 128 + [66, 6, 89, 15, 124, 10].getD k.toNat 0)) (fun o => [(match o with | some k => .val (vInt k) | none => .un), .val (intsP xs)]) (fun o k => Asg.name 0 rfl (by decide) rfl) _ none (fun k hk => ?_)) ?_) (Ex.freeze 1 rfl rfl ?_)
  · have hk' := mem_rangeL hk
    refine Ev.bin (Ev.bin (Ev.call (Ev.glob (g_sum L) rfl) (KeepOk.builtin _) (.cons (EvL.ev (EvL.compOf (l := ((rangeL k xs.length 6).map fun i => xs.getD i.toNat 0).map vInt) ["i"] [1] [intsP xs] (by kernel_rfl) ⟨rfl, trivial⟩ (Ev.call (Ev.glob (g_range L) rfl) (KeepOk.type _) (.cons (Ev.name 0 rfl rfl) (.cons (Ev.call (Ev.glob (g_len L) rfl) (KeepOk.builtin _) (.cons (Ev.name 1 rfl rfl) .nil) hlen) (.cons Ev.int .nil))) (FnG.range3 (by decide) (by decide))) (IterG.range (by decide) ⟨Int.le_trans (by decide) hk'.1, Int.lt_trans hk'.2 (by decide)⟩ hxl (by decide)) ?_ ?_)) .nil) FnG.sum) Ev.int (BinG.mod (by decide)))
      (Ev.sub (EvL.ev (EvL.list (.cons Ev.int (.cons Ev.int (.cons Ev.int (.cons Ev.int (.cons Ev.int (.cons Ev.int .nil)))))))) (Ev.name 0 rfl rfl) (SubG.item hk'.1 (Int.lt_trans hk'.2 (by decide)) ?_)) BinG.add
    · rw [List.map_map]
      refine CTurns.map vInt (vInt ∘ fun i => xs.getD i.toNat 0) (fun o => [(match o with | some i => .val (vInt i) | none => .un), .val (intsP xs)]) (fun o i => Asg.name 0 rfl (by decide) rfl) _ none (fun i hi => ?_)
      have hi' := mem_rangeLc (by decide) hi
      exact Ev.sub (Ev.name 1 rfl rfl) (Ev.name 0 rfl rfl) (SubG.item (Int.le_trans hk'.1 hi'.1) (Int.lt_trans hi'.2 (Int.lt_trans hxl.2 (by decide))) (get_int ((Int.toNat_lt (Int.le_trans hk'.1 hi'.1)).mpr hi'.2)))
    · rw [List.length_map, List.length_map, sizeLine_eq]
      have := rangeLc_length (k := k) (N := xs.length) (c := 6) (by lia) (by decide)
      lia
    · have := six_cases hk'
      rcases this with rfl | rfl | rfl | rfl | rfl | rfl <;> rfl
  · simp [rangeL, sizeLine_eq]
  · have hv : ((rangeL 0 6 1).map fun k => vInt (sumAt xs 6 k % 128 + [66, 6, 89, 15, 124, 10].getD k.toNat 0)) = (values2 xs).map vInt := by unfold values2; rw [List.map_map]; rfl
    rw [hv]
    refine Ex.cons (Ex1.assignComp 2 ["k"] [0] [intsP xs] rfl hnd rfl (by kernel_rfl) ⟨rfl, trivial⟩ (Ev.call (Ev.glob (g_range L) rfl) (KeepOk.type _) (.cons Ev.int (.cons (Ev.bin (Ev.call (Ev.glob (g_len L) rfl) (KeepOk.builtin _) (.cons (Ev.name 0 rfl rfl) .nil) hlen) Ev.int BinG.add) .nil)) FnG.range2) (IterG.range (by decide) (by decide) ⟨Int.le_trans hxl.1 (Int.le_add_of_nonneg_right (by decide)), Int.lt_of_le_of_lt (Int.add_le_add_right (Int.ofNat_le.mpr hx) 1) (by decide)⟩ (by decide))
      (CTurns.map vInt (fun k => vInt (xs.getD (-k + xs.length).toNat 0)) (fun o => [(match o with | some k => .val (vInt k) | none => .un), .val (intsP xs)]) (fun o k => Asg.name 0 rfl (by decide) rfl) _ none (fun k hk => ?_)) ?_) (Ex.freeze 2 rfl rfl ?_)
    · have hk' := mem_rangeL hk
      exact Ev.sub (Ev.name 1 rfl rfl) (Ev.neg (Ev.name 0 rfl rfl)) (SubG.itemNeg (by lia) (by rw [hlx]; lia) (by lia) (by rw [hlx]; exact get_int (by lia)))
    · rw [List.length_map, sizeLine_eq]
      have := rangeL_length' 1 (xs.length + 1) (by decide)
      lia
    · have hb : ((rangeL 1 (xs.length + 1) 1).map fun k => vInt (xs.getD (-k + xs.length).toNat 0)) = (backOf xs).map vInt := by unfold backOf; rw [List.map_map]; rfl
      rw [hb]
      have hlb : ((backOf xs).map vInt).length ≤ 64 := by
        unfold backOf; rw [List.length_map, List.length_map]
        have := rangeL_length' 1 (xs.length + 1) (by decide)
        lia
      refine Ex.cons (Ex1.assignComp 3 ["number"] [] [] rfl hnd rfl (by kernel_rfl) trivial ((Ev.sub (EvL.ev (EvL.add (Ev.name 0 rfl rfl) (EvL.ev (EvL.list (.cons Ev.int (.cons Ev.int (.cons Ev.int (.cons Ev.int (.cons Ev.int (.cons Ev.int .nil)))))))) ?_)) (Ev.slice .none (.some Ev.int)) (SubG.cutL ?_)).conv (q := intsP (cut (xs ++ [0, 45, 20, 57, 3, 8]) none (some 6))) ?_) IterG.list
        (CTurns.map vInt (fun x => vInt (x % 90)) (fun o => [(match o with | some k => .val (vInt k) | none => .un)]) (fun o k => Asg.name 0 rfl (by decide) rfl) _ none (fun k hk => Ev.bin (Ev.name 0 rfl rfl) Ev.int (BinG.mod (by decide)))) ?_) (Ex.freeze 3 rfl rfl ?_)
      · rw [hlx, sizeLine_eq]; simp only [List.length_cons, List.length_nil]; lia
      · rw [List.length_append, hlx, sizeLine_eq]; simp only [List.length_cons, List.length_nil]; lia
      · show vLst (cut (xs.map vInt ++ [0, 45, 20, 57, 3, 8].map vInt) none (some 6)) = _
        rw [← List.map_append, cut_map]
      · rw [List.length_map, sizeLine_eq]
        have := cut_length (xs ++ [0, 45, 20, 57, 3, 8]) none (some 6)
        rw [List.length_append] at this
        simp only [List.length_cons, List.length_nil] at this; lia
      have hf : ((cut (xs ++ [0, 45, 20, 57, 3, 8]) none (some 6)).map fun x => vInt (x % 90)) = (firsts2 xs).map vInt := by unfold firsts2; rw [List.map_map]; rfl
      rw [hf]
      refine Ex.cons (Ex1.assignComp 4 ["number"] [] [] rfl hnd rfl (by kernel_rfl) trivial ((Ev.sub (EvL.ev (EvL.add (Ev.name 2 rfl rfl) (EvL.ev (EvL.list (.cons Ev.int (.cons Ev.int (.cons Ev.int (.cons Ev.int (.cons Ev.int (.cons Ev.int .nil)))))))) ?_)) (Ev.slice .none (.some Ev.int)) (SubG.cutL ?_)).conv (q := intsP (cut (backOf xs ++ [53, 14, 1, 30, 44, 5]) none (some 6))) ?_) IterG.list
        (CTurns.map vInt (fun x => vInt (x % 90)) (fun o => [(match o with | some k => .val (vInt k) | none => .un)]) (fun o k => Asg.name 0 rfl (by decide) rfl) _ none (fun k hk => Ev.bin (Ev.name 0 rfl rfl) Ev.int (BinG.mod (by decide)))) ?_) (Ex.freeze 4 rfl rfl ?_)
      · rw [sizeLine_eq]; simp only [List.length_cons, List.length_nil]; lia
      · rw [List.length_append, sizeLine_eq]; simp only [List.length_cons, List.length_nil]; lia
      · show vLst (cut ((backOf xs).map vInt ++ [53, 14, 1, 30, 44, 5].map vInt) none (some 6)) = _
        rw [← List.map_append, cut_map]
      · rw [List.length_map, sizeLine_eq]
        have := cut_length (backOf xs ++ [53, 14, 1, 30, 44, 5]) none (some 6)
        rw [List.length_append] at this
        rw [List.length_map] at hlb
        simp only [List.length_cons, List.length_nil] at this; lia
      have hf2 : ((cut (backOf xs ++ [53, 14, 1, 30, 44, 5]) none (some 6)).map fun x => vInt (x % 90)) = (lasts2 xs).map vInt := by unfold lasts2; rw [List.map_map]; rfl
      rw [hf2]
      have hvl : (values2 xs).length = 6 := by simp [values2, rangeL]
      refine Ex.cons (Ex1.assignComp 5 ["k"] [1] [intsP (values2 xs)] rfl hnd rfl (by kernel_rfl) ⟨rfl, trivial⟩ (Ev.call (Ev.glob (g_range L) rfl) (KeepOk.type _) (.cons Ev.int .nil) FnG.range1) (IterG.range (by decide) (by decide) (by decide) (by decide))
        (CTurns.map vInt (fun k => vS (leadOf ((values2 xs).getD k.toNat 0) ++ [97 + k.toNat] ++ tail2 ((values2 xs).getD k.toNat 0))) (fun o => [(match o with | some k => .val (vInt k) | none => .un), .val (intsP (values2 xs))]) (fun o k => Asg.name 0 rfl (by decide) rfl) _ none (fun k hk => ?_)) ?_) (Ex.freeze 5 rfl rfl ?_)
      · have hk' := mem_rangeL hk
        have hit : ∀ {k2 : Nat}, SubG C (intsP (values2 xs)) (vInt k) (vInt ((values2 xs).getD k.toNat 0)) := fun {_} => SubG.item hk'.1 (Int.lt_trans hk'.2 (by decide)) (get_int ((Int.toNat_lt hk'.1).mpr (by rw [hvl]; exact hk'.2)))
        generalize hv0 : (values2 xs).getD k.toNat 0 = v0 at hit
        have hsign : [97, 98, 99, 100, 101, 102][k.toNat]? = some (97 + k.toNat) := by
          have := six_cases hk'
          rcases this with rfl | rfl | rfl | rfl | rfl | rfl <;> rfl
        have htl : [vS [], vS [32, 9]][(v0 / 64 % 2).toNat]? = some (vS (tail2 v0)) := by
          unfold tail2
          rcases Int.emod_two_eq (v0 / 64) with q | q <;> rw [q] <;> rfl
        have hll := leadOf_len v0
        have htt : (tail2 v0).length ≤ 2 := by unfold tail2; split <;> simp
        refine Ev.bin (Ev.bin (Ev.call (Ev.glob (L.fn (by kernel_rfl)) rfl) (L.keep (by kernel_rfl)) (.cons (Ev.sub (Ev.name 1 rfl rfl) (Ev.name 0 rfl rfl) (hit (k2 := 0))) .nil) ((lead_fn (n := 0) L v0).le (by lia))) (Ev.sub (Ev.s [97, 98, 99, 100, 101, 102] rfl) (Ev.name 0 rfl rfl) (SubG.sign hk'.1 (Int.lt_trans hk'.2 (by decide)) hsign)) (BinG.addS ?_))
          (Ev.sub (EvL.ev (EvL.list (.cons (Ev.s [] rfl) (.cons (Ev.s [32, 9] rfl) .nil)))) (Ev.bin (Ev.bin (Ev.sub (Ev.name 1 rfl rfl) (Ev.name 0 rfl rfl) (hit (k2 := 0))) Ev.int (BinG.div (by decide) (by decide))) Ev.int (BinG.mod (by decide))) (SubG.item (Int.emod_nonneg _ (by decide)) (Int.lt_trans (Int.emod_lt_of_pos _ (by decide)) (by decide)) htl)) (BinG.addS ?_)
        · rw [sizeLine_eq]; simp only [List.length_cons, List.length_nil]; lia
        · rw [List.length_append, sizeLine_eq]; simp only [List.length_cons, List.length_nil]; lia
      · simp [rangeL, sizeLine_eq]
      have hrw : ((rangeL 0 6 1).map fun k => vS (leadOf ((values2 xs).getD k.toNat 0) ++ [97 + k.toNat] ++ tail2 ((values2 xs).getD k.toNat 0))) = (rows2 (values2 xs)).map vS := by unfold rows2; rw [List.map_map]; rfl
      rw [hrw]
      refine Ex.cons (Ex1.assignComp 6 ["value"] [] [] rfl hnd rfl (by kernel_rfl) trivial (Ev.name 1 rfl rfl) IterG.list
        (CTurns.map vInt (fun v => intsP (columnsOf (leadOf v))) (fun o => [(match o with | some k => .val (vInt k) | none => .un)]) (fun o k => Asg.name 0 rfl (by decide) rfl) _ none (fun v hv => ?_)) ?_) (Ex.freeze 6 rfl rfl ?_)
      · exact Ev.call (Ev.glob (L.fn (by kernel_rfl)) rfl) (L.keep (by kernel_rfl)) (.cons (Ev.call (Ev.glob (L.fn (by kernel_rfl)) rfl) (L.keep (by kernel_rfl)) (.cons (Ev.name 0 rfl rfl) .nil) ((lead_fn (n := 0) L v).le (by lia))) .nil) ((columns_fn (n := 0) L (leadOf v)).le (by lia))
      · rw [List.length_map, hvl, sizeLine_eq]; lia
      have hcl : ((values2 xs).map fun v => intsP (columnsOf (leadOf v))) = (cols2 (values2 xs)).map intsP := by unfold cols2; rw [List.map_map]; rfl
      rw [hcl]
      have hro := rows2_ok (values2 xs)
      have hm1 : ∀ m ∈ firsts2 xs, 0 ≤ m ∧ m < 1000 := fun m hm => by
        obtain ⟨x, _, rfl⟩ := List.mem_map.mp hm
        exact ⟨Int.emod_nonneg _ (by decide), Int.lt_trans (Int.emod_lt_of_pos _ (by decide)) (by decide)⟩
      have hm2 : ∀ m ∈ lasts2 xs, 0 ≤ m ∧ m < 1000 := fun m hm => by
        obtain ⟨x, _, rfl⟩ := List.mem_map.mp hm
        exact ⟨Int.emod_nonneg _ (by decide), Int.lt_trans (Int.emod_lt_of_pos _ (by decide)) (by decide)⟩
      have hcc : (cols2 (values2 xs)).length = (rows2 (values2 xs)).length := by simp [cols2, hvl, rows2, rangeL]
      have hc10 : ∀ c ∈ cols2 (values2 xs), c.length = 10 := fun c hc => by
        obtain ⟨v, _, rfl⟩ := List.mem_map.mp hc
        simp [columnsOf, rangeL]
      have hrl : (rows2 (values2 xs)).length ≤ 20 := by simp [rows2, rangeL]
      have F1 := fold_fn (n := n) L T1 T2 (rows2 (values2 xs)) (firsts2 xs) hro hm1 false
      have F2 := fold_fn (n := n) L T1 T2 (rows2 (values2 xs)) (lasts2 xs) hro hm2 true
      rw [h1] at F1
      rw [h2] at F2
      have G := fun e => (left_fn (n := 0) L (rows2 (values2 xs)) (cols2 (values2 xs)) hcc hrl hc10 e).le (n := n + 6) (by lia)
      refine Ex.cons (Ex1.iff (c := false) (EvB.cmp (Ev.call (Ev.glob (L.fn (by kernel_rfl)) rfl) (L.keep (by kernel_rfl)) (.cons (Ev.name 5 rfl rfl) (.cons (Ev.name 3 rfl rfl) (.cons Ev.bool .nil))) F1) (Ev.call (Ev.glob (L.fn (by kernel_rfl)) rfl) (L.keep (by kernel_rfl)) (.cons (Ev.name 5 rfl rfl) (.cons (Ev.name 6 rfl rfl) (.cons Ev.bool .nil))) (G false)) (CmpG.neRows ?_)) (fun h => nomatch h) (fun _ => Ex.nil)) ?_
      · exact left_str _ _ _
      refine Ex.one (Ex1.ret (Ev.cmp (Ev.call (Ev.glob (L.fn (by kernel_rfl)) rfl) (L.keep (by kernel_rfl)) (.cons (Ev.name 5 rfl rfl) (.cons (Ev.name 4 rfl rfl) (.cons Ev.bool .nil))) F2) (Ev.call (Ev.glob (L.fn (by kernel_rfl)) rfl) (L.keep (by kernel_rfl)) (.cons (Ev.name 5 rfl rfl) (.cons (Ev.name 6 rfl rfl) (.cons Ev.bool .nil))) (G true)) (CmpG.eqRows (left_str _ _ _))))

end
end Mine

/-! Go02 -/
open PySem PySem.W PyProof.Rows
set_option maxRecDepth 100000 in
set_option maxHeartbeats 8000000 in
theorem PySem.Challenge.cw_mr0221_02_holds : PySem.Challenge.rw_mr0221_02.Holds :=
  Mine.hd (by
  k_fill
  intro w s₀ s₁ mg mb G Y fa o pm cd doc dV kV ho hd hcd hD hmg hg args vals as hpre hlay hrd hwl hlo
  have KX := km_in_of Y
  km_tabs Y
  have X := (Ground.X G).1
  have V := (Ground.X G).2
  refine Ground.open G ?_
  intro T B D TE TW
  try (refine guard_noD D (by decide +kernel) ?_; clear D)
  km_lay T hmg ho hd cd
  wrow_args hpre hlay hrd hwl hlo
  rename_i xs _ _ _ _ _ _ _ La _ _ _ _ hW _ _ _ hc _
  refine enter_call ?_
  w_top on
  kn_posts
  have KG := ghost_K hT9 KX (by kernel_rfl)
  have LG : Mine.LawG ⟨PySem.Challenge.rw_mr0221_02.row.prog, w, ghostOf s₁.heap [(114, 110), (121, 117)], [Mine.hitTab (Mine.hd.heap_39 w.params) 115 114 110, Mine.progTab (Mine.hd.heap_39 w.params) 122 121 117], s₁.gens, s₁.os⟩ (Mine.hd.heap_39 w.params) mg := by
    have TT := ghost_top hT9 T
    exact ⟨KG, TT.nolimit, TT.g, TT.bmain, mb, TT.b, TT.builtins⟩
  have hfa : fa = 156 := by
    have e1 := mg_of KX T.g (n := "law") (v := .ref 156) (by kernel_rfl)
    exact Value.ref.inj (Option.some.inj (hmg.symm.trans e1))
  subst hfa
  refine Mine.law_end (specs := [Mine.hitTab (Mine.hd.heap_39 w.params) 115 114 110, Mine.progTab (Mine.hd.heap_39 w.params) 122 121 117]) hT9 rfl hg (Mine.start_list hT9 hW) (Mine.law_code (n := 13) LG ?_ ?_ xs ?_ (Mine.plain2 xs).1 (Mine.plain2 xs).2) ?_ ?_
  · refine LG.maker (.head _) (fun t' ht' hP => ?_) (ghost_code hT9).1
    rcases List.mem_cons.mp ht' with rfl | ht'
    · rfl
    · cases List.mem_singleton.mp ht'; exact absurd (show (117 : Nat) = 110 from hP) (by decide)
  · refine LG.maker (.tail _ (.head _)) (fun t' ht' hP => ?_) (ghost_code hT9).2.1
    rcases List.mem_cons.mp ht' with rfl | ht'
    · exact absurd (show (110 : Nat) = 117 from hP) (by decide)
    · cases List.mem_singleton.mp ht'; rfl
  · lia
  · first | kernel_rfl | with_unfolding_all rfl
  · intro cls; rfl)
