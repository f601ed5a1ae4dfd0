import PyProof.Rows.All
import Wide.All
import OpenK.AllK
import Wide.FinOn
import PySem.Challenge.RW_mr0221_01
set_option Elab.async false
set_option linter.all false
set_option compiler.extract_closed false

set_option tactic.hygienic false
set_option genInjectivity false
set_option genSizeOf false
set_option genSizeOfSpec false
namespace Mine
open PySem PySem.W PyProof.Rows

noncomputable abbrev ASet := Addr → Prop


structure VP where
  P : ASet → Heap → Value → Prop
  mono : ∀ {S S' : ASet} {h : Heap} {v : Value}, (∀ a, S a → S' a) → P S h v → P S' h v
  keep : ∀ {S : ASet} {h h' : Heap} {v : Value}, (∀ a o, S a → h.get? a = some o → h'.get? a = some o) → P S h v → P S h' v

noncomputable def All2 (S : ASet) (h : Heap) : List Value → List VP → Prop
  | [], [] => True
  | v :: vs, p :: ps => p.P S h v ∧ All2 S h vs ps
  | _, _ => False

theorem All2.ind {S : ASet} {h : Heap} {P : List Value → List VP → Prop} (hn : P [] []) (hc : ∀ v vs p ps, p.P S h v → All2 S h vs ps → P vs ps → P (v :: vs) (p :: ps)) : ∀ {vs : List Value} {ps : List VP}, All2 S h vs ps → P vs ps := by
  intro vs
  induction vs with
  | nil =>
    intro ps x
    cases ps with
    | nil => exact hn
    | cons p ps => exact x.elim
  | cons v vs ih =>
    intro ps x
    cases ps with
    | nil => exact x.elim
    | cons p ps => exact hc v vs p ps x.1 x.2 (ih x.2)
theorem All2.mono {S S' : ASet} {h : Heap} (hs : ∀ a, S a → S' a) {vs : List Value} {ps : List VP} (x : All2 S h vs ps) : All2 S' h vs ps :=
  All2.ind (P := fun vs ps => All2 S' h vs ps) trivial (fun _ _ p _ a _ b => ⟨p.mono hs a, b⟩) x
theorem All2.keep {S : ASet} {h h' : Heap} (hk : ∀ a o, S a → h.get? a = some o → h'.get? a = some o) {vs : List Value} {ps : List VP} (x : All2 S h vs ps) : All2 S h' vs ps :=
  All2.ind (P := fun vs ps => All2 S h' vs ps) trivial (fun _ _ p _ a _ b => ⟨p.keep hk a, b⟩) x
theorem All2.length {S : ASet} {h : Heap} {vs : List Value} {ps : List VP} (x : All2 S h vs ps) : vs.length = ps.length :=
  All2.ind (P := fun vs ps => vs.length = ps.length) rfl (fun _ _ _ _ _ _ b => congrArg Nat.succ b) x
theorem All2.append {S : ASet} {h : Heap} {vs ws : List Value} {ps qs : List VP} (x : All2 S h vs ps) (y : All2 S h ws qs) : All2 S h (vs ++ ws) (ps ++ qs) :=
  All2.ind (P := fun vs ps => All2 S h (vs ++ ws) (ps ++ qs)) y (fun _ _ _ _ a _ b => ⟨a, b⟩) x
theorem All2.get {S : ASet} {h : Heap} {vs : List Value} {ps : List VP} (x : All2 S h vs ps) : ∀ {i : Nat} {p : VP}, ps[i]? = some p → ∃ v, vs[i]? = some v ∧ p.P S h v :=
  All2.ind (P := fun vs ps => ∀ {i : Nat} {p : VP}, ps[i]? = some p → ∃ v, vs[i]? = some v ∧ p.P S h v) (fun e => by rw [List.getElem?_nil] at e; cases e) (fun v vs q ps a _ b {i p} e => by
    cases i with
    | zero => rw [List.getElem?_cons_zero] at e; exact ⟨v, List.getElem?_cons_zero, Option.some.inj e ▸ a⟩
    | succ i => rw [List.getElem?_cons_succ] at e ⊢; exact b e) x
theorem All2.of_get {S : ASet} {h : Heap} : ∀ {vs : List Value} {ps : List VP}, vs.length = ps.length → (∀ (j : Nat) v p, vs[j]? = some v → ps[j]? = some p → p.P S h v) → All2 S h vs ps
  | [], [], _, _ => trivial
  | [], _ :: _, e, _ => nomatch e
  | _ :: _, [], e, _ => nomatch e
  | v :: vs, p :: ps, e, k => ⟨k 0 v p rfl rfl, All2.of_get (Nat.succ.inj e) fun j v p hv hp => k (j + 1) v p hv hp⟩
theorem All2.drop {S : ASet} {h : Heap} (n : Nat) {vs : List Value} {ps : List VP} (x : All2 S h vs ps) : All2 S h (vs.drop n) (ps.drop n) := by
  revert n
  exact All2.ind (P := fun vs ps => ∀ n, All2 S h (vs.drop n) (ps.drop n)) (fun n => by rw [List.drop_nil, List.drop_nil]; trivial) (fun v vs p ps a x b n => by
    cases n with
    | zero => exact ⟨a, x⟩
    | succ n => exact b n) x
theorem All2.take {S : ASet} {h : Heap} (n : Nat) {vs : List Value} {ps : List VP} (x : All2 S h vs ps) : All2 S h (vs.take n) (ps.take n) := by
  revert n
  exact All2.ind (P := fun vs ps => ∀ n, All2 S h (vs.take n) (ps.take n)) (fun n => by rw [List.take_nil, List.take_nil]; trivial) (fun v vs p ps a x b n => by
    cases n with
    | zero => trivial
    | succ n => exact ⟨a, b n⟩) x
theorem All2.set {S : ASet} {h : Heap} (i : Nat) {vs : List Value} {ps : List VP} {v : Value} {p : VP} (x : All2 S h vs ps) (y : p.P S h v) : All2 S h (vs.set i v) (ps.set i p) := by
  revert i
  exact All2.ind (P := fun vs ps => ∀ i, All2 S h (vs.set i v) (ps.set i p)) (fun _ => trivial) (fun v vs p ps a x b i => by
    cases i with
    | zero => exact ⟨y, x⟩
    | succ i => exact ⟨a, b i⟩) x


noncomputable def PL (h : Heap) (a : Addr) (its : Array Value) : Prop := ∃ o n, h.get? a = some o ∧ o.cls = .type "list" ∧ o.dict = none ∧ o.data = .seq its n ∧ o.slots = #[]
theorem PL.isList {h : Heap} {a : Addr} {its : Array Value} (x : PL h a its) : h.IsList a its := let ⟨o, n, e, c, _, d, _⟩ := x; ⟨o, e, c, n, d⟩
theorem PL.plainL {h : Heap} {a : Addr} {its : Array Value} (x : PL h a its) : PlainL h a its := let ⟨o, n, e, c, q, d, _⟩ := x; ⟨o, n, e, c, q, d⟩
theorem PL.keeps {h h' : Heap} {a : Addr} {its : Array Value} (x : PL h a its) (hk : ∀ b o, h.get? b = some o → h'.get? b = some o) : PL h' a its := let ⟨o, n, e, r⟩ := x; ⟨o, n, hk a o e, r⟩
theorem PL.exact {h : Heap} {a : Addr} {its : Array Value} (x : PL h a its) : ∃ n, h.get? a = some { cls := .type "list", dict := none, data := .seq its n, slots := #[] } := by
  obtain ⟨⟨c, d, dt, sl⟩, n, e, h1, h2, h3, h4⟩ := x
  simp only at h1 h2 h3 h4
  subst h1 h2 h3 h4
  exact ⟨n, e⟩
theorem PL.of {h : Heap} {a : Addr} {its : Array Value} {n : Nat} (e : h.get? a = some { cls := .type "list", dict := none, data := .seq its n, slots := #[] }) : PL h a its := ⟨_, n, e, rfl, rfl, rfl, rfl⟩
theorem list_append_PL {prog : Program} {w : World} {A : Around} {E : Value → Shared → Prop} {s : Shared} {l : Addr} {its : Array Value} {x : Value} {Q : Value → Shared → Prop}
    (hl : PL s.heap l its) (hQ : ∀ h', PL h' l (its.push x) → Heap.SameBut l s.heap h' → Q .none { s with heap := h' }) (hsz : its.size ≤ sizeLine) :
    wpAny (model prog w) A (call (.builtin "list.append") [.ref l, x]) Q E s :=
  wpAny_list_append_plain hl.exact (fun h' ⟨_, e⟩ hs => hQ h' (.of e) hs) hsz


noncomputable def vNone : VP := ⟨fun _ _ v => v = .none, fun _ x => x, fun _ x => x⟩
noncomputable def vBool (b : Bool) : VP := ⟨fun _ _ v => v = .bool b, fun _ x => x, fun _ x => x⟩
noncomputable def vInt (i : Int) : VP := ⟨fun _ _ v => ∃ t, v = .int i t, fun _ x => x, fun _ x => x⟩
noncomputable def vStr (x : Str) : VP := ⟨fun _ _ v => ∃ t, v = .str x t, fun _ x => x, fun _ x => x⟩

noncomputable def vIs (w : Value) : VP := ⟨fun _ _ v => v = w, fun _ x => x, fun _ x => x⟩
noncomputable def vLst (l : List VP) : VP where
  P := fun S h v => ∃ a vs, v = .ref a ∧ S a ∧ PL h a (List.toArray vs) ∧ All2 S h vs l
  mono := fun hs x => by obtain ⟨a, vs, e, ha, hl, x⟩ := x; exact ⟨a, vs, e, hs _ ha, hl, x.mono hs⟩
  keep := fun hk x => by obtain ⟨a, vs, e, ha, ⟨o, n, ho, r⟩, x⟩ := x; exact ⟨a, vs, e, ha, ⟨o, n, hk _ _ ha ho, r⟩, x.keep hk⟩
noncomputable def vTup (l : List VP) : VP where
  P := fun S h v => ∃ a vs, v = .ref a ∧ S a ∧ IsTup h a (List.toArray vs) ∧ All2 S h vs l
  mono := fun hs x => by obtain ⟨a, vs, e, ha, hl, x⟩ := x; exact ⟨a, vs, e, hs _ ha, hl, x.mono hs⟩
  keep := fun hk x => by obtain ⟨a, vs, e, ha, ⟨o, ho, r⟩, x⟩ := x; exact ⟨a, vs, e, ha, ⟨o, hk _ _ ha ho, r⟩, x.keep hk⟩


noncomputable def VP.Scalar (p : VP) : Prop := ∀ S S' h h' v, p.P S h v → p.P S' h' v
theorem scalar_int (b : Int) : (vInt b).Scalar := fun _ _ _ _ _ x => x

structure TabSpec where
  c : Addr
  P : Addr
  made : List (Pos × Str)

structure Cx where
  prog : Program
  w : World
  base : Heap
  tabs : List TabSpec
  gens : Array GenState
  os : OsState

noncomputable def Cx.isTab (C : Cx) (a : Addr) : Prop := ∃ t ∈ C.tabs, t.P = a
noncomputable abbrev Cx.M (C : Cx) : Model := model C.prog C.w

noncomputable def TabOk (S : ASet) (h : Heap) (t : TabSpec) : Prop :=
  ∃ ps, h.get? t.P = some (tabObj ps) ∧ TriplesOk ps.toList ∧
    ∀ x ∈ t.made, codeAmong x.1 ps.toList = none ∨ ∃ c', codeAmong x.1 ps.toList = some (.ref c') ∧ S c' ∧ h.CodeRec (.ref c') x.2

structure Inv (C : Cx) (S : ASet) (s : Shared) : Prop where
  base : ∀ b o, C.base.get? b = some o → s.heap.get? b = some o ∧ S b
  live : ∀ a, S a → (s.heap.get? a).isSome = true
  tab : ∀ t ∈ C.tabs, TabOk S s.heap t
  notab : ∀ a, S a → ¬ C.isTab a
  gens : s.gens = C.gens
  os : s.os = C.os


structure Step (C : Cx) (hb : ASet) (S : ASet) (s : Shared) (S' : ASet) (s' : Shared) : Prop where
  inv : Inv C S' s'
  sub : ∀ a, S a → S' a
  new : ∀ a, S' a → S a ∨ ¬ hb a
  kept : ∀ b o, ¬ C.isTab b → (hb b ∨ S b) → s.heap.get? b = some o → s'.heap.get? b = some o

noncomputable abbrev liveIn (h : Heap) : ASet := fun b => (h.get? b).isSome = true
theorem live_of {h : Heap} {a : Addr} {o : Obj} (e : h.get? a = some o) : liveIn h a := by show (h.get? a).isSome = true; rw [e]; rfl
theorem live_get {h : Heap} {a : Addr} (e : liveIn h a) : ∃ o, h.get? a = some o := Option.isSome_iff_exists.mp e
theorem not_live {h : Heap} {a : Addr} (e : h.get? a = none) : ¬ liveIn h a := fun q => by obtain ⟨o, q⟩ := live_get q; rw [e] at q; cases q
noncomputable abbrev Grow (C : Cx) (S : ASet) (s : Shared) (S' : ASet) (s' : Shared) : Prop := Step C (liveIn s.heap) S s S' s'

theorem Step.alive {C hb S s S' s'} (x : Step C hb S s S' s') {b : Addr} (h : hb b ∨ S b) (l : liveIn s.heap b) : liveIn s'.heap b := by
  by_cases q : C.isTab b
  · obtain ⟨t, ht, rfl⟩ := q
    obtain ⟨ps, h1, _⟩ := x.inv.tab t ht
    exact live_of h1
  · obtain ⟨o, e⟩ := live_get l
    exact live_of (x.kept b o q h e)
theorem Grow.alive {C S s S' s'} (x : Grow C S s S' s') {b : Addr} (l : liveIn s.heap b) : liveIn s'.heap b := Step.alive x (.inl l) l
theorem Step.keeps {C hb S s S' s'} (x : Step C hb S s S' s') (I : Inv C S s) : ∀ a o, S a → s.heap.get? a = some o → s'.heap.get? a = some o :=
  fun a o ha e => x.kept a o (I.notab a ha) (.inr ha) e

theorem Grow.all {C S s S' s'} (x : Grow C S s S' s') : ∀ b o, ¬ C.isTab b → s.heap.get? b = some o → s'.heap.get? b = some o :=
  fun b o hb e => x.kept b o hb (.inl (live_of e)) e

theorem Step.refl {C hb S s} (I : Inv C S s) : Step C hb S s S s := ⟨I, fun _ h => h, fun _ h => .inl h, fun _ _ _ _ e => e⟩

theorem none_of_not {h : Heap} {a : Addr} (x : ¬ (h.get? a).isSome = true) : h.get? a = none := by
  cases e : h.get? a with
  | none => rfl
  | some o => rw [e] at x; exact absurd rfl x

theorem Step.trans {C hb S s S₁ s₁ S₂ s₂} (x : Step C hb S s S₁ s₁) (y : Step C hb S₁ s₁ S₂ s₂) : Step C hb S s S₂ s₂ where
  inv := y.inv
  sub := fun a h => y.sub a (x.sub a h)
  new := fun a h => (y.new a h).elim (x.new a) .inr
  kept := fun b o hb' h e => y.kept b o hb' (h.imp id (x.sub b)) (x.kept b o hb' h e)


theorem Step.weaken {C hb hb' S s S' s'} (x : Step C hb S s S' s') (a : ∀ b, hb' b → hb b) : Step C hb' S s S' s' where
  inv := x.inv
  sub := x.sub
  new := fun b h => (x.new b h).imp id fun e q => e (a b q)
  kept := fun b o n h e => x.kept b o n (h.imp (a b) id) e

theorem Grow.trans {C S s S₁ s₁ S₂ s₂} (x : Grow C S s S₁ s₁) (y : Grow C S₁ s₁ S₂ s₂) : Grow C S s S₂ s₂ :=
  Step.trans x (y.weaken fun _ h => x.alive h)


structure AOk (n : Nat) (A : Around) : Prop where
  handled : A.handled = none
  depth : A.depth + n < recursionLimit
  units : A.units + 20 * n + 100 < cLine

theorem AOk.le {n m A} (x : AOk n A) (h : m ≤ n) : AOk m A := ⟨x.handled, Nat.lt_of_le_of_lt (Nat.add_le_add_left h _) x.depth, Nat.lt_of_le_of_lt (Nat.add_le_add_right (Nat.add_le_add_left (Nat.mul_le_mul_left 20 h) _) 100) x.units⟩
theorem AOk.step {n a b d : Nat} (h : a + 20 * (n + 1) + 100 < b) (hd : d ≤ 20) : a + d + 20 * n + 100 < b := by
  refine Nat.lt_of_le_of_lt (Nat.add_le_add_right ?_ 100) h
  rw [Nat.mul_add, Nat.add_assoc, Nat.add_comm d]
  exact Nat.add_le_add_left (Nat.add_le_add_left hd _) a
theorem AOk.deeper {n A} (x : AOk (n + 1) A) (env : Env) : AOk n (A.deeper env) :=
  ⟨x.handled, by show A.depth + 1 + n < _; rw [Nat.add_right_comm]; exact x.depth, AOk.step x.units (show 3 ≤ 20 by decide)⟩


inductive Slot where
  | un
  | val (p : VP)
  | own (l : List VP)

noncomputable def Holds (env : Env) (h : Heap) (x : Str) (v : Value) : Prop :=
  (env.kindOf x = some .local ∧ ∃ m, h.Ns env.locals m ∧ m x = some v) ∨
  ((env.kindOf x = some .cell ∨ env.kindOf x = some .free) ∧ ∃ c, env.cells.lookup x = some c ∧ h.IsCell c (some v))

structure Shape where
  scope : Scope
  names : List Str
  
  cells : List Str

noncomputable def SlotOk (hb : ASet) (env : Env) (a : Addr) (S : ASet) (h : Heap) (x : Str) : Slot → Prop
  | .un => True
  | .val p => ∃ v, Holds env h x v ∧ p.P S h v
  | .own l => Holds env h x (.ref a) ∧ ¬ S a ∧ ¬ hb a ∧ ∃ vs, PL h a (List.toArray vs) ∧ All2 S h vs l

noncomputable def SlotsAt (f : Nat → Addr) (hb : ASet) (env : Env) (names : List Str) (S : ASet) (h : Heap) (vals : List Slot) : Prop :=
  names.length = vals.length ∧ (∀ i x t, names[i]? = some x → vals[i]? = some t → SlotOk hb env (f i) S h x t) ∧
    ∀ i j l l', vals[i]? = some (.own l) → vals[j]? = some (.own l') → f i = f j → i = j
noncomputable abbrev Slots (hb : ASet) (env : Env) (names : List Str) (S : ASet) (h : Heap) (vals : List Slot) : Prop := ∃ f, SlotsAt f hb env names S h vals

structure FrameOk (C : Cx) (fr : Shape) (n : Nat) (hb : ASet) (env : Env) (A : Around) (S : ASet) (s : Shared) (vals : List Slot) : Prop where
  inv : Inv C S s
  scope : env.scope = fr.scope
  kind : env.scope.kind = .function
  globals : env.globals = mainGlobals
  builtins : env.builtins = builtinsNs
  around : AOk n A
  alive : ∀ b, hb b → (s.heap.get? b).isSome = true
  ns : ∃ m, s.heap.Ns env.locals m
  locNot : ¬ S env.locals ∧ ¬ hb env.locals
  cells : ∀ x c, env.cells.lookup x = some c → ∃ v, s.heap.IsCell c v
  apart : ∀ x ∈ fr.cells, ∀ y c, env.cells.lookup x = some c → env.cells.lookup y = some c → y = x
  ownc : ∀ x ∈ fr.cells, ∃ c, env.cells.lookup x = some c ∧ ¬ hb c ∧ ¬ S c
  slots : Slots hb env fr.names S s.heap vals

theorem Inv.notab_of {C : Cx} {S : ASet} {s : Shared} {a : Addr} {o : Obj} (I : Inv C S s) (e : s.heap.get? a = some o) (hd : ∀ vs, o.data ≠ .fields vs) : ¬ C.isTab a := by
  rintro ⟨t, ht, rfl⟩
  obtain ⟨ps, h1, _⟩ := I.tab t ht
  rw [h1] at e; cases e
  exact hd _ rfl
theorem Inv.notab_list {C S s a items} (I : Inv C S s) (x : PL s.heap a items) : ¬ C.isTab a := by
  obtain ⟨o, n, e, _, _, hd, _⟩ := x; exact I.notab_of e fun vs q => by rw [hd] at q; cases q
theorem Inv.notab_ns {C S s a m} (I : Inv C S s) (x : s.heap.Ns a m) : ¬ C.isTab a := by
  obtain ⟨o, es, ep, e, hd, _⟩ := x; exact I.notab_of e fun vs q => by rw [hd] at q; cases q
theorem Inv.notab_cell {C S s a v} (I : Inv C S s) (x : s.heap.IsCell a v) : ¬ C.isTab a := by
  obtain ⟨o, e, hd⟩ := x; exact I.notab_of e fun vs q => by rw [hd] at q; cases q

theorem ns_unique {h : Heap} {a : Addr} {m m' : Str → Option Value} (x : h.Ns a m) (y : h.Ns a m') : m = m' := by
  obtain ⟨o, es, ep, e, d, _, f⟩ := x
  obtain ⟨o', es', ep', e', d', _, f'⟩ := y
  rw [e] at e'; cases e'
  rw [d] at d'; cases d'
  funext n; rw [← f n, f' n]

theorem SlotsAt.move {f : Nat → Addr} {hb : ASet} {env : Env} {names : List Str} {S S' : ASet} {h h' : Heap} {vals : List Slot} (x : SlotsAt f hb env names S h vals)
    (hH : ∀ y v, Holds env h y v → Holds env h' y v) (hS : ∀ a, S a → S' a) (hk : ∀ a o, S a → h.get? a = some o → h'.get? a = some o)
    (hown : ∀ a items, ¬ S a → ¬ hb a → PL h a items → PL h' a items ∧ ¬ S' a) : SlotsAt f hb env names S' h' vals := by
  obtain ⟨hl, hs, hd⟩ := x
  refine ⟨hl, fun i y t hy ht => ?_, hd⟩
  have q := hs i y t hy ht
  cases t with
  | un => trivial
  | val p => obtain ⟨v, a, b⟩ := q; exact ⟨v, hH _ _ a, p.mono hS (p.keep hk b)⟩
  | own l =>
    obtain ⟨a, b, c, vs, d, e⟩ := q
    obtain ⟨d', b'⟩ := hown _ _ b c d
    exact ⟨hH _ _ a, b', c, vs, d', (e.keep hk).mono hS⟩

theorem Holds.kept {C : Cx} {env : Env} {S : ASet} {s : Shared} {h' : Heap} {x : Str} {v : Value} (I : Inv C S s)
    (hk : ∀ b o, ¬ C.isTab b → s.heap.get? b = some o → h'.get? b = some o) (y : Holds env s.heap x v) : Holds env h' x v := by
  rcases y with ⟨a, m, n, e⟩ | ⟨a, c, b, d⟩
  · have nt := I.notab_ns n
    obtain ⟨o, es, ep, e1, r⟩ := n
    exact .inl ⟨a, m, ⟨o, es, ep, hk _ _ nt e1, r⟩, e⟩
  · have nt := I.notab_cell d
    obtain ⟨o, e1, r⟩ := d
    exact .inr ⟨a, c, b, ⟨o, hk _ _ nt e1, r⟩⟩

theorem SlotsAt.grow {C f hb env names S s vals S' s'} (I : Inv C S s) (x : SlotsAt f hb env names S s.heap vals) (g : Grow C S s S' s') : SlotsAt f hb env names S' s'.heap vals :=
  x.move (fun y v x => x.kept I g.all) g.sub (fun a o ha e => g.all _ _ (I.notab a ha) e) fun a items nS _ x => by
    have nt := I.notab_list x
    obtain ⟨o, n, e1, r⟩ := x
    exact ⟨⟨o, n, g.all _ _ nt e1, r⟩, fun q => (g.new _ q).elim nS fun e => e (live_of e1)⟩

theorem FrameOk.growNo {C fr n hb env A S s vals S' s' vals'} (F : FrameOk C fr n hb env A S s vals) (g : Grow C S s S' s') (hs : Slots hb env fr.names S' s'.heap vals') : FrameOk C fr n hb env A S' s' vals' where
  inv := g.inv
  scope := F.scope
  kind := F.kind
  globals := F.globals
  builtins := F.builtins
  around := F.around
  alive := fun b h => g.alive (F.alive b h)
  ns := by
    obtain ⟨m, x⟩ := F.ns
    have nt := F.inv.notab_ns x
    obtain ⟨o, es, ep, e1, r⟩ := x
    exact ⟨m, o, es, ep, g.all _ _ nt e1, r⟩
  locNot := ⟨fun q => (g.new _ q).elim F.locNot.1 (fun e => by
    obtain ⟨m, o, es, ep, e1, r⟩ := F.ns
    exact e (live_of e1)), F.locNot.2⟩
  cells := fun x c hc => by
    obtain ⟨v, y⟩ := F.cells x c hc
    have nt := F.inv.notab_cell y
    obtain ⟨o, e1, r⟩ := y
    exact ⟨v, o, g.all _ _ nt e1, r⟩
  apart := F.apart
  ownc := fun x hx => by
    obtain ⟨c, e1, e2, e3⟩ := F.ownc x hx
    obtain ⟨v, o, e, _⟩ := F.cells x c e1
    exact ⟨c, e1, e2, fun q => (g.new _ q).elim e3 fun e' => e' (live_of e)⟩
  slots := hs
theorem FrameOk.grow {C fr n hb env A S s vals S' s'} (F : FrameOk C fr n hb env A S s vals) (g : Grow C S s S' s') : FrameOk C fr n hb env A S' s' vals :=
  F.growNo g (let ⟨f, x⟩ := F.slots; ⟨f, x.grow F.inv g⟩)


noncomputable abbrev F0 : Value → Shared → Prop := fun _ _ => False


noncomputable def Gives (C : Cx) (A : Around) (t : Sem Value) (S : ASet) (s : Shared) (p : VP) : Prop :=
  wpAny C.M A t (fun v s' => ∃ S', Grow C S s S' s' ∧ p.P S' s'.heap v) F0 s

noncomputable def Ev (C : Cx) (fr : Shape) (n : Nat) (vals : List Slot) (e : Expr) (p : VP) : Prop :=
  ∀ hb env A S s, FrameOk C fr n hb env A S s vals → Gives C A (eval e env) S s p


noncomputable def EvB (C : Cx) (fr : Shape) (n : Nat) (vals : List Slot) (e : Expr) (b : Bool) : Prop :=
  ∀ hb env A S s, FrameOk C fr n hb env A S s vals → wpAny C.M A (isTrue e env (eval e env)) (fun c s' => c = b ∧ ∃ S', Grow C S s S' s') F0 s

inductive Out where
  | next (vals : List Slot)
  | brk (vals : List Slot)
  | cont (vals : List Slot)
  | ret (p : VP)

noncomputable def OutOk (C : Cx) (fr : Shape) (n : Nat) (hb : ASet) (env : Env) (A : Around) (S : ASet) (s : Shared) : Out → Flow → Prop
  | .next vals, .next => FrameOk C fr n hb env A S s vals
  | .brk vals, .brk => FrameOk C fr n hb env A S s vals
  | .cont vals, .cont => FrameOk C fr n hb env A S s vals
  | .ret p, .ret v => p.P S s.heap v
  | _, _ => False

noncomputable def Ex1 (C : Cx) (fr : Shape) (n : Nat) (vals : List Slot) (st : Stmt) (o : Out) : Prop :=
  ∀ hb env A S s, FrameOk C fr n hb env A S s vals → wpAny C.M A (exec st env) (fun f s' => ∃ S', Step C hb S s S' s' ∧ OutOk C fr n hb env A S' s' o f) F0 s

noncomputable def Ex (C : Cx) (fr : Shape) (n : Nat) (vals : List Slot) (ss : List Stmt) (o : Out) : Prop :=
  ∀ hb env A S s, FrameOk C fr n hb env A S s vals → wpAny C.M A (execs ss env) (fun f s' => ∃ S', Step C hb S s S' s' ∧ OutOk C fr n hb env A S' s' o f) F0 s

section
variable {C : Cx} {fr : Shape} {n : Nat} {vals vals' : List Slot}

theorem FrameOk.stepGrow {hb env A S s S' s'} (F : FrameOk C fr n hb env A S s vals) (g : Grow C S s S' s') : Step C hb S s S' s' := g.weaken fun b h => F.alive b h

theorem Ex.nil {vals : List Slot} : Ex C fr n vals [] (.next vals) := fun _ _ _ S _ F => wpAny_execs_nil ⟨S, .refl F.inv, F⟩

theorem Ex.cons {st : Stmt} {rest : List Stmt} {o : Out} (h1 : Ex1 C fr n vals st (.next vals')) (h2 : Ex C fr n vals' rest o) : Ex C fr n vals (st :: rest) o :=
  fun hb env A S s F => wpAny_execs_cons (wpAny_mono (h1 hb env A S s F) (fun f s' x => by
    obtain ⟨S', g, y⟩ := x
    cases f <;> first | exact y.elim | skip
    refine wpAny_mono (h2 hb env A S' s' y) (fun f s'' z => ?_) fun _ _ q => q
    obtain ⟨S'', g', z⟩ := z
    exact ⟨S'', g.trans g', z⟩) fun _ _ q => q)

theorem Ex.stop {st : Stmt} {rest : List Stmt} {o : Out} (h1 : Ex1 C fr n vals st o) (ho : ∀ v, o ≠ .next v) : Ex C fr n vals (st :: rest) o :=
  fun hb env A S s F => wpAny_execs_cons (wpAny_mono (h1 hb env A S s F) (fun f s' x => by
    obtain ⟨S', g, y⟩ := x
    cases o with
    | next v => exact absurd rfl (ho v)
    | brk v => cases f <;> first | exact y.elim | exact ⟨S', g, y⟩
    | cont v => cases f <;> first | exact y.elim | exact ⟨S', g, y⟩
    | ret p => cases f <;> first | exact y.elim | exact ⟨S', g, y⟩) fun _ _ q => q)

theorem Ex.one {st : Stmt} {o : Out} (h1 : Ex1 C fr n vals st o) : Ex C fr n vals [st] o := by
  cases o with
  | next v => exact Ex.cons h1 .nil
  | brk v => exact Ex.stop h1 (fun _ q => by cases q)
  | cont v => exact Ex.stop h1 (fun _ q => by cases q)
  | ret p => exact Ex.stop h1 (fun _ q => by cases q)


theorem Holds.load {env : Env} {A : Around} {s : Shared} {x : Str} {v : Value} {Q : Value → Shared → Prop} {E : Value → Shared → Prop} (hk : env.scope.kind = .function) (y : Holds env s.heap x v) (hn : (x == ("__classdict__" : Str)) = false) (h : Q v s) :
    wpAny C.M A (loadName env x) Q E s := by
  rcases y with ⟨a, m, b, e⟩ | ⟨a | a, c, b, d⟩
  · exact wpAny_loadName_local hk a b e h
  · exact wpAny_loadName_cell hk a b d h
  · exact wpAny_loadName_free hk a b d h hn

theorem Ev.name {x : Str} {pos : Pos} {p : VP} (i : Nat) (hx : fr.names[i]? = some x) (hv : vals[i]? = some (.val p)) (hd : (x == ("__debug__" : Str)) = false := by decide) (hn : (x == ("__classdict__" : Str)) = false := by decide) :
    Ev C fr n vals (.Name x pos) p := fun hb env A S s F => by
  obtain ⟨f, _, hs, _⟩ := F.slots
  obtain ⟨v, y, z⟩ := hs i x _ hx hv
  exact wpAny_Name (y.load F.kind hn ⟨S, .refl F.inv, z⟩) hd

theorem Inv.tok {S : ASet} {s : Shared} (I : Inv C S s) (t : Nat) : Inv C S { s with toks := t } := ⟨I.base, I.live, I.tab, I.notab, I.gens, I.os⟩
theorem Grow.tok {S : ASet} {s : Shared} (I : Inv C S s) (t : Nat) : Grow C S s S { s with toks := t } :=
  ⟨I.tok t, fun _ h => h, fun _ h => .inl h, fun _ _ _ _ e => e⟩

theorem Ev.none {k pos} : Ev C fr n vals (.Constant .none k pos) vNone := fun _ _ _ S _ F => wpAny_Constant_none ⟨S, .refl F.inv, rfl⟩
theorem Ev.bool {b k pos} : Ev C fr n vals (.Constant (.bool b) k pos) (vBool b) := fun _ _ _ S _ F => wpAny_Constant_bool ⟨S, .refl F.inv, rfl⟩
theorem Ev.int {i k pos} : Ev C fr n vals (.Constant (.int i) k pos) (vInt i) := fun _ _ _ S _ F => wpAny_Constant_int ⟨S, Grow.tok F.inv _, _, rfl⟩
theorem Ev.str {x k pos} : Ev C fr n vals (.Constant (.str x) k pos) (vStr x) := fun _ _ _ S _ F => wpAny_Constant_str ⟨S, Grow.tok F.inv _, _, rfl⟩

end
end Mine

set_option tactic.hygienic false
namespace Mine
open PySem PySem.W PyProof.Rows

section
variable {C : Cx} {fr : Shape} {n : Nat} {vals vals' : List Slot}


theorem size_none (h : Heap) : h.get? h.objs.size = none := by
  cases e : h.get? h.objs.size with
  | none => rfl
  | some o => exact absurd (Heap.lt_size e) (Nat.lt_irrefl _)

theorem TabOk.move {S S' : ASet} {h h' : Heap} {t : TabSpec} (x : TabOk S h t) (hP : ∀ o, h.get? t.P = some o → h'.get? t.P = some o) (hS : ∀ a, S a → S' a)
    (hk : ∀ a o, S a → h.get? a = some o → h'.get? a = some o) : TabOk S' h' t := by
  obtain ⟨ps, h1, h2, h3⟩ := x
  refine ⟨ps, hP _ h1, h2, fun x hx => (h3 x hx).imp id fun z => ?_⟩
  obtain ⟨c', e1, e2, c, o, vs, tk, q1, q2, q3⟩ := z
  refine ⟨c', e1, hS _ e2, c, o, vs, tk, q1, ?_, q3⟩
  cases q1
  exact hk _ _ e2 q2


theorem grow_of_kept {S S' : ASet} {s : Shared} {h' : Heap} {tk : Nat} (I : Inv C S s) (hk : ∀ b o, s.heap.get? b = some o → h'.get? b = some o)
    (hS : ∀ a, S a → S' a) (hn : ∀ a, S' a → S a ∨ (s.heap.get? a = none ∧ (h'.get? a).isSome = true)) : Grow C S s S' { s with heap := h', toks := tk } where
  inv := {
    base := fun b o e => ⟨hk _ _ (I.base b o e).1, hS _ (I.base b o e).2⟩
    live := fun a ha => (hn a ha).elim (fun q => by
      have := I.live a q
      cases e : s.heap.get? a with
      | none => rw [e] at this; cases this
      | some o => show (h'.get? a).isSome = true; rw [hk _ _ e]; rfl) fun q => q.2
    tab := fun t ht => (I.tab t ht).move (fun o e => hk _ _ e) hS fun a o _ e => hk _ _ e
    notab := fun a ha => (hn a ha).elim (I.notab a) fun q => by
      rintro ⟨t, ht, rfl⟩
      obtain ⟨ps, h1, _⟩ := I.tab t ht
      rw [q.1] at h1; cases h1
    gens := I.gens
    os := I.os }
  sub := hS
  new := fun a ha => (hn a ha).imp id fun q => not_live q.1
  kept := fun b o _ _ e => hk _ _ e

theorem grow_push {S : ASet} {s : Shared} {o : Obj} {tk : Nat} (I : Inv C S s) (ho : o.isFreed = false) :
    Grow C S s (fun a => S a ∨ a = s.heap.objs.size) { s with heap := s.heap.push o, toks := tk } :=
  grow_of_kept I (fun _ _ e => Heap.get?_push_of_some o e) (fun _ h => .inl h) fun a h => h.imp id fun e => by
    subst e; exact ⟨size_none _, by rw [Heap.get?_push_size _ ho]; rfl⟩


theorem grow_push' {S : ASet} {s : Shared} {o : Obj} {tk : Nat} (I : Inv C S s) :
    Grow C S s S { s with heap := s.heap.push o, toks := tk } :=
  grow_of_kept I (fun _ _ e => Heap.get?_push_of_some o e) (fun _ h => h) fun _ h => .inl h

theorem pushed_list {S : ASet} {s : Shared} {vs : List Value} {l : List VP} {m : Nat} (I : Inv C S s) (x : All2 S s.heap vs l) :
    (vLst l).P (fun a => S a ∨ a = s.heap.objs.size) (s.heap.push { cls := .type "list", data := .seq vs.toArray m }) (.ref s.heap.objs.size) :=
  ⟨_, vs, rfl, .inr rfl, ⟨_, _, Heap.get?_push_size _ rfl, rfl, rfl, rfl, rfl⟩, (x.keep fun _ _ _ e => Heap.get?_push_of_some _ e).mono fun _ h => .inl h⟩
theorem pushed_tup {S : ASet} {s : Shared} {vs : List Value} {l : List VP} {m : Nat} (I : Inv C S s) (x : All2 S s.heap vs l) :
    (vTup l).P (fun a => S a ∨ a = s.heap.objs.size) (s.heap.push { cls := .type "tuple", data := .seq vs.toArray m }) (.ref s.heap.objs.size) :=
  ⟨_, vs, rfl, .inr rfl, ⟨_, Heap.get?_push_size _ rfl, rfl, _, rfl⟩, (x.keep fun _ _ _ e => Heap.get?_push_of_some _ e).mono fun _ h => .inl h⟩


theorem Gives.seq {A : Around} {S : ASet} {s : Shared} {t : Sem Value} {p q : VP} {Q : Value → Shared → Prop} (h : Gives C A t S s p)
    (k : ∀ v S₁ s₁, Grow C S s S₁ s₁ → p.P S₁ s₁.heap v → Q v s₁) : wpAny C.M A t Q F0 s :=
  wpAny_mono h (fun v s₁ ⟨S₁, g, x⟩ => k v S₁ s₁ g x) fun _ _ z => z


noncomputable def BinG (C : Cx) (op : Operator) (p q r : VP) : Prop :=
  ∀ A S s a b, Inv C S s → AOk 0 A → p.P S s.heap a → q.P S s.heap b → Gives C A (binaryOp op a b) S s r
noncomputable def CmpG (C : Cx) (op : CmpOp) (p q : VP) (r : Bool) : Prop :=
  ∀ A S s a b, Inv C S s → AOk 0 A → p.P S s.heap a → q.P S s.heap b → Gives C A (compareOp op a b) S s (vBool r)

theorem Ev.bin {l r : Expr} {op : Operator} {pos : Pos} {p q u : VP} (hl : Ev C fr n vals l p) (hr : Ev C fr n vals r q) (ho : BinG C op p q u) : Ev C fr n vals (.BinOp l op r pos) u :=
  fun hb env A S s F => wpAny_BinOp (Gives.seq (q := p) (hl hb env A S s F) fun a S₁ s₁ g₁ x =>
    Gives.seq (q := p) (hr hb env A S₁ s₁ (F.grow g₁)) fun b S₂ s₂ g₂ y =>
      wpAny_mono (ho A S₂ s₂ a b g₂.inv (F.around.le (Nat.zero_le _)) (p.mono g₂.sub (p.keep (g₂.keeps g₁.inv) x)) y) (fun _ _ ⟨S₃, g₃, z⟩ => ⟨S₃, (g₁.trans g₂).trans g₃, z⟩) fun _ _ z => z)

theorem Ev.cmp {l r : Expr} {op : CmpOp} {pos : Pos} {p q : VP} {u : Bool} (hl : Ev C fr n vals l p) (hr : Ev C fr n vals r q) (ho : CmpG C op p q u) (hm : behindInMarks op r = false := by with_unfolding_all rfl) :
    Ev C fr n vals (.Compare l [op] [r] pos) (vBool u) :=
  fun hb env A S s F => wpAny_Compare1 (Gives.seq (q := p) (hl hb env A S s F) fun a S₁ s₁ g₁ x =>
    Gives.seq (q := p) (hr hb env A S₁ s₁ (F.grow g₁)) fun b S₂ s₂ g₂ y =>
      wpAny_mono (ho A S₂ s₂ a b g₂.inv (F.around.le (Nat.zero_le _)) (p.mono g₂.sub (p.keep (g₂.keeps g₁.inv) x)) y) (fun _ _ ⟨S₃, g₃, z⟩ => ⟨S₃, (g₁.trans g₂).trans g₃, z⟩) fun _ _ z => z) hm

theorem EvB.cmp {l r : Expr} {op : CmpOp} {pos : Pos} {p q : VP} {u : Bool} (hl : Ev C fr n vals l p) (hr : Ev C fr n vals r q) (ho : CmpG C op p q u) (hm : behindInMarks op r = false := by with_unfolding_all rfl) :
    EvB C fr n vals (.Compare l [op] [r] pos) u :=
  fun hb env A S s F => wpAny_isTrue_Compare1 (Gives.seq (q := p) (hl hb env A S s F) fun a S₁ s₁ g₁ x =>
    Gives.seq (q := p) (hr hb env A S₁ s₁ (F.grow g₁)) fun b S₂ s₂ g₂ y =>
      wpAny_mono (ho A S₂ s₂ a b g₂.inv (F.around.le (Nat.zero_le _)) (p.mono g₂.sub (p.keep (g₂.keeps g₁.inv) x)) y) (fun v s₃ pq => by
        obtain ⟨S₃, g₃, z⟩ := pq
        cases (show v = .bool u from z)
        exact wpAny_truthy_bool ⟨rfl, S₃, (g₁.trans g₂).trans g₃⟩) fun _ _ z => z) hm

theorem EvB.not {x : Expr} {pos : Pos} {b : Bool} (h : EvB C fr n vals x b) : EvB C fr n vals (.UnaryOp .Not x pos) (!b) :=
  fun hb env A S s F => wpAny_isTrue_Not (wpAny_mono (h hb env A S s F) (fun _ _ ⟨e, z⟩ => ⟨by rw [e], z⟩) fun _ _ z => z)


noncomputable def EvAll (C : Cx) (fr : Shape) (n : Nat) (vals : List Slot) (op : BoolOp) (es : List Expr) (b : Bool) : Prop :=
  ∀ hb env A S s, FrameOk C fr n hb env A S s vals → wpAny C.M A (allTrue op es env) (fun c s' => c = b ∧ ∃ S', Grow C S s S' s') F0 s

theorem EvAll.and_nil : EvAll C fr n vals .And [] true := fun _ _ _ S _ F => wpAny_allTrue_And_nil ⟨rfl, S, .refl F.inv⟩
theorem EvAll.or_nil : EvAll C fr n vals .Or [] false := fun _ _ _ S _ F => wpAny_allTrue_Or_nil ⟨rfl, S, .refl F.inv⟩
theorem EvAll.and_cons {x : Expr} {rest : List Expr} {a b : Bool} (h1 : EvB C fr n vals x a) (h2 : a = true → EvAll C fr n vals .And rest b) : EvAll C fr n vals .And (x :: rest) (a && b) :=
  fun hb env A S s F => wpAny_allTrue_And_cons (wpAny_mono (h1 hb env A S s F) (fun c s₁ pq => by
    obtain ⟨e, S₁, g⟩ := pq
    subst e
    cases c with
    | false => exact ⟨rfl, S₁, g⟩
    | true => exact wpAny_mono (h2 rfl hb env A S₁ s₁ (F.grow g)) (fun _ _ ⟨e, S₂, g₂⟩ => ⟨by rw [e]; rfl, S₂, g.trans g₂⟩) fun _ _ z => z) fun _ _ z => z)
theorem EvAll.or_cons {x : Expr} {rest : List Expr} {a b : Bool} (h1 : EvB C fr n vals x a) (h2 : a = false → EvAll C fr n vals .Or rest b) : EvAll C fr n vals .Or (x :: rest) (a || b) :=
  fun hb env A S s F => wpAny_allTrue_Or_cons (wpAny_mono (h1 hb env A S s F) (fun c s₁ pq => by
    obtain ⟨e, S₁, g⟩ := pq
    subst e
    cases c with
    | true => exact ⟨rfl, S₁, g⟩
    | false => exact wpAny_mono (h2 rfl hb env A S₁ s₁ (F.grow g)) (fun _ _ ⟨e, S₂, g₂⟩ => ⟨by rw [e]; rfl, S₂, g.trans g₂⟩) fun _ _ z => z) fun _ _ z => z)
theorem EvB.bool {op : BoolOp} {es : List Expr} {pos : Pos} {b : Bool} (h : EvAll C fr n vals op es b) : EvB C fr n vals (.BoolOp op es pos) b :=
  fun hb env A S s F => wpAny_isTrue_BoolOp (h hb env A S s F)


noncomputable def TruG (C : Cx) (p : VP) (b : Bool) : Prop :=
  ∀ A S s v, Inv C S s → AOk 0 A → p.P S s.heap v → wpAny C.M A (truthy v) (fun c s' => c = b ∧ ∃ S', Grow C S s S' s') F0 s
theorem TruG.bool (b : Bool) : TruG C (vBool b) b := fun A S s v I _ e => by cases (show v = .bool b from e); exact wpAny_truthy_bool ⟨rfl, S, .refl I⟩

end
end Mine

set_option tactic.hygienic false
namespace Mine
open PySem PySem.W PyProof.Rows

section
variable {C : Cx} {fr : Shape} {n : Nat} {vals vals' : List Slot}


theorem step_sameBut {hb : ASet} {S : ASet} {s : Shared} {h' : Heap} {a : Addr} {tk : Nat} (I : Inv C S s) (hs : Heap.SameBut a s.heap h') (nS : ¬ S a) (nt : ¬ C.isTab a) (nb : ¬ hb a) : Step C hb S s S { s with heap := h', toks := tk } where
  inv := {
    base := fun b o e => ⟨(hs.2 b (fun q => nS (q ▸ (I.base b o e).2))).trans (I.base b o e).1, (I.base b o e).2⟩
    live := fun b hb' => by
      show (h'.get? b).isSome = true
      rw [hs.2 b (fun q => nS (q ▸ hb'))]; exact I.live b hb'
    tab := fun t ht => (I.tab t ht).move (fun o e => (hs.2 _ (fun q => nt ⟨t, ht, q⟩)).trans e) (fun _ h => h) fun b o hb' e => (hs.2 b (fun q => nS (q ▸ hb'))).trans e
    notab := I.notab
    gens := I.gens
    os := I.os }
  sub := fun _ h => h
  new := fun _ h => .inl h
  kept := fun b o _ h e => (hs.2 b (fun q => by
    subst q
    rcases h with h | h
    · exact nb h
    · exact nS h)).trans e

theorem list_isSome {h : Heap} {a : Addr} {m : Array Value} (x : PL h a m) : (h.get? a).isSome = true := by
  obtain ⟨o, _, e, _⟩ := x; rw [e]; rfl

theorem list_ne_ns {h : Heap} {a b : Addr} {m : Array Value} {f : Str → Option Value} (x : PL h a m) (y : h.Ns b f) : a ≠ b := by
  rintro rfl
  obtain ⟨o, k, e, _, _, d, _⟩ := x
  obtain ⟨o', es, ep, e', d', _⟩ := y
  rw [e] at e'; cases e'; rw [d] at d'; cases d'
theorem list_ne_cell {h : Heap} {a b : Addr} {m : Array Value} {f : Option Value} (x : PL h a m) (y : h.IsCell b f) : a ≠ b := by
  rintro rfl
  obtain ⟨o, k, e, _, _, d, _⟩ := x
  obtain ⟨o', e', d'⟩ := y
  rw [e] at e'; cases e'; rw [d] at d'; cases d'
theorem ns_ne_cell {h : Heap} {a b : Addr} {m : Str → Option Value} {f : Option Value} (x : h.Ns a m) (y : h.IsCell b f) : a ≠ b := by
  rintro rfl
  obtain ⟨o, es, ep, e, d, _⟩ := x
  obtain ⟨o', e', d'⟩ := y
  rw [e] at e'; cases e'; rw [d] at d'; cases d'
theorem list_sameBut {h h' : Heap} {a b : Addr} {m : Array Value} (x : PL h a m) (hs : Heap.SameBut b h h') (hab : a ≠ b) : PL h' a m := by
  obtain ⟨o, k, e, r⟩ := x; exact ⟨o, k, (hs.2 a hab).trans e, r⟩


noncomputable def StoreAt (env : Env) (h h' : Heap) : Prop := ∃ a, Heap.SameBut a h h' ∧ (a = env.locals ∨ ∃ y, env.cells.lookup y = some a)


noncomputable def canStore (fr : Shape) (x : Str) : Bool := fr.scope.names.lookup x == some .local || (fr.scope.names.lookup x == some .cell && fr.cells.contains x)

theorem kindOf_eq (env : Env) (x : Str) : env.kindOf x = env.scope.names.lookup x := rfl


theorem FrameOk.storeRaw {hb env A S s vals} {x : Str} {v : Value} {Q : Unit → Shared → Prop} (F : FrameOk C fr n hb env A S s vals) (hc : canStore fr x = true)
    (h : ∀ h' tk, Step C hb S s S { s with heap := h', toks := tk } → Holds env h' x v → (∀ y u, y ≠ x → Holds env s.heap y u → Holds env h' y u) →
      (∀ a items, PL s.heap a items → PL h' a items) → (∃ m, h'.Ns env.locals m) → (∀ y c, env.cells.lookup y = some c → ∃ u, h'.IsCell c u) → (∀ a o, S a → s.heap.get? a = some o → h'.get? a = some o) → StoreAt env s.heap h' → Q () { s with heap := h', toks := tk }) :
    wpAny C.M A (storeName env x v) Q F0 s := by
  obtain ⟨m, hm⟩ := F.ns
  unfold canStore at hc
  rw [← F.scope] at hc
  rcases Bool.or_eq_true_iff.mp hc with hl | hl
  · have hl : env.kindOf x = some .local := eq_of_beq hl
    refine wpAny_storeName_local hl hm (fun h' hn hs => ?_) (by rw [F.kind]; rfl)
    have st := step_sameBut (hb := hb) (tk := s.toks + 1) F.inv hs F.locNot.1 (F.inv.notab_ns hm) F.locNot.2
    refine h h' _ st (.inl ⟨hl, _, hn, by simp⟩) (fun y u hy z => ?_) (fun a items z => list_sameBut z hs (list_ne_ns z hm)) ⟨_, hn⟩ (fun y c q => ?_) (fun a o ha e => (hs.2 a fun q => F.locNot.1 (q ▸ ha)).trans e) ⟨_, hs, .inl rfl⟩
    · rcases z with ⟨k, m', hm', e⟩ | ⟨k, c, e, z⟩
      · cases ns_unique hm hm'
        exact .inl ⟨k, _, hn, by simp [hy, e]⟩
      · exact .inr ⟨k, c, e, z.sameBut hs (Ne.symm (ns_ne_cell hm z))⟩
    · obtain ⟨u, z⟩ := F.cells y c q
      exact ⟨u, z.sameBut hs (Ne.symm (ns_ne_cell hm z))⟩
  · obtain ⟨hl, hw⟩ := Bool.and_eq_true_iff.mp hl
    have hl : env.kindOf x = some .cell := eq_of_beq hl
    obtain ⟨c, hcl, hcb, nS⟩ := F.ownc x (by simpa using hw)
    obtain ⟨u₀, hz⟩ := F.cells x c hcl
    refine wpAny_storeName_cell F.kind hl hcl hz fun h' hn hs => ?_
    have st := step_sameBut (hb := hb) (tk := s.toks) F.inv hs nS (F.inv.notab_cell hz) hcb
    refine h h' _ st (.inr ⟨.inl hl, c, hcl, hn⟩) (fun y u hy z => ?_) (fun a items z => list_sameBut z hs (list_ne_cell z hz)) ⟨m, hm.sameBut hs (ns_ne_cell hm hz)⟩ (fun y c' q => ?_) (fun a o ha e => (hs.2 a fun q => nS (q ▸ ha)).trans e) ⟨_, hs, .inr ⟨x, hcl⟩⟩
    · rcases z with ⟨k, m', hm', e⟩ | ⟨k, c', e, z⟩
      · exact .inl ⟨k, m', hm'.sameBut hs (ns_ne_cell hm' hz), e⟩
      · exact .inr ⟨k, c', e, z.sameBut hs fun q => hy (F.apart x (by simpa using hw) y c hcl (q ▸ e))⟩
    · by_cases e : c' = c
      · subst e; exact ⟨_, hn⟩
      · obtain ⟨u, z⟩ := F.cells y c' q
        exact ⟨u, z.sameBut hs e⟩

theorem nodup_ne {α : Type} {l : List α} (hn : l.Nodup) {i j : Nat} {x y : α} (hi : l[i]? = some x) (hj : l[j]? = some y) (hij : i ≠ j) : y ≠ x := by
  rintro rfl
  obtain ⟨hi1, hi2⟩ := List.getElem?_eq_some_iff.mp hi
  obtain ⟨hj1, hj2⟩ := List.getElem?_eq_some_iff.mp hj
  have key : ∀ a b : Nat, a < b → (ha : a < l.length) → (hb : b < l.length) → l[a] ≠ l[b] := fun a b hab ha hb => List.pairwise_iff_getElem.mp hn a b ha hb hab
  rcases Nat.lt_or_gt_of_ne hij with q | q
  · exact key i j q hi1 hj1 (hi2.trans hj2.symm)
  · exact key j i q hj1 hi1 (hj2.trans hi2.symm)

theorem set_self {vals : List Slot} {i : Nat} {t u : Slot} (ht : (vals.set i u)[i]? = some t) : t = u := by
  rw [List.getElem?_set] at ht
  simp only [if_true] at ht
  split at ht
  · exact (Option.some.inj ht).symm
  · cases ht


theorem FrameOk.storeSlot {hb env A S s vals} {x : Str} {v : Value} {t : Slot} {i : Nat} {Q : Unit → Shared → Prop} (F : FrameOk C fr n hb env A S s vals) (hi : fr.names[i]? = some x) (hnd : fr.names.Nodup) (hc : canStore fr x = true)
    {f : Nat → Addr} (hsl : SlotsAt f hb env fr.names S s.heap vals) (a : Addr)
    (hnew : ∀ h', Holds env h' x v → (∀ a o, S a → s.heap.get? a = some o → h'.get? a = some o) → (∀ a items, PL s.heap a items → PL h' a items) → SlotOk hb env a S h' x t)
    (hap : ∀ l, t = .own l → ∀ j l', vals[j]? = some (.own l') → j ≠ i → f j ≠ a)
    (h : ∀ s', Step C hb S s S s' → FrameOk C fr n hb env A S s' (vals.set i t) → StoreAt env s.heap s'.heap → Q () s') : wpAny C.M A (storeName env x v) Q F0 s := by
  refine F.storeRaw hc fun h' tk st h1 h2 h3 h4 h5 h6 h7 => h _ st ?_ h7
  refine ⟨st.inv, F.scope, F.kind, F.globals, F.builtins, F.around, fun b q => st.alive (.inl q) (F.alive b q), h4, F.locNot, h5, F.apart, F.ownc, ?_⟩
  obtain ⟨hl, hs, hd⟩ := hsl
  refine ⟨fun j => if j = i then a else f j, by simpa using hl, fun j y u hy hu => ?_, fun j k l l' hj hk e => ?_⟩
  · by_cases e : j = i
    · subst e
      rw [hi] at hy; cases hy
      cases set_self hu
      simp only [if_true]
      exact hnew h' h1 h6 h3
    · simp only [e, if_false]
      rw [List.getElem?_set_ne (Ne.symm e)] at hu
      have q := hs j y u hy hu
      have hne := nodup_ne hnd hi hy (Ne.symm e)
      cases u with
      | un => trivial
      | val p' => obtain ⟨u, a, b⟩ := q; exact ⟨u, h2 _ _ hne a, p'.keep h6 b⟩
      | own l => obtain ⟨a, b, c, vs, d, e'⟩ := q; exact ⟨h2 _ _ hne a, b, c, vs, h3 _ _ d, e'.keep h6⟩
  · by_cases ej : j = i <;> by_cases ek : k = i
    · rw [ej, ek]
    · exfalso
      subst ej
      rw [List.getElem?_set_ne (Ne.symm ek)] at hk
      simp only [if_true, ek, if_false] at e
      exact hap l (set_self hj).symm k l' hk ek e.symm
    · exfalso
      subst ek
      rw [List.getElem?_set_ne (Ne.symm ej)] at hj
      simp only [if_true, ej, if_false] at e
      exact hap l' (set_self hk).symm j l hj ej e
    · rw [List.getElem?_set_ne (Ne.symm ej)] at hj
      rw [List.getElem?_set_ne (Ne.symm ek)] at hk
      simp only [ej, ek, if_false] at e
      exact hd j k l l' hj hk e

theorem FrameOk.store {hb env A S s vals} {x : Str} {v : Value} {p : VP} {i : Nat} {Q : Unit → Shared → Prop} (F : FrameOk C fr n hb env A S s vals) (hi : fr.names[i]? = some x) (hnd : fr.names.Nodup) (hc : canStore fr x = true)
    (hp : p.P S s.heap v) (h : ∀ s', Step C hb S s S s' → FrameOk C fr n hb env A S s' (vals.set i (.val p)) → StoreAt env s.heap s'.heap → Q () s') : wpAny C.M A (storeName env x v) Q F0 s := by
  obtain ⟨f, hsl⟩ := F.slots
  exact F.storeSlot (t := .val p) hi hnd hc hsl 0 (fun h' h1 h2 _ => ⟨v, h1, p.keep h2 hp⟩) (fun l q => by cases q) h


structure Fresh (C : Cx) (S : ASet) (s : Shared) (S' : ASet) (s' : Shared) (v : Value) (l : List VP) : Prop where
  grow : Grow C S s S' s'
  is : ∃ a vs, v = .ref a ∧ s.heap.get? a = none ∧ ¬ S' a ∧ PL s'.heap a (List.toArray vs) ∧ All2 S' s'.heap vs l

noncomputable def GivesL (C : Cx) (A : Around) (t : Sem Value) (S : ASet) (s : Shared) (l : List VP) : Prop :=
  wpAny C.M A t (fun v s' => ∃ S', Fresh C S s S' s' v l) F0 s
noncomputable def EvL (C : Cx) (fr : Shape) (n : Nat) (vals : List Slot) (e : Expr) (l : List VP) : Prop :=
  ∀ hb env A S s, FrameOk C fr n hb env A S s vals → GivesL C A (eval e env) S s l


theorem Fresh.take {S S' : ASet} {s s' : Shared} {v : Value} {l : List VP} (x : Fresh C S s S' s' v l) : ∃ S'', Grow C S s S'' s' ∧ (∀ a, S' a → S'' a) ∧ (vLst l).P S'' s'.heap v := by
  obtain ⟨g, a, vs, rfl, h0, nS, hl, hx⟩ := x
  refine ⟨fun b => S' b ∨ b = a, ⟨⟨fun b o e => ⟨(g.inv.base b o e).1, .inl (g.inv.base b o e).2⟩, fun b h => ?_, fun t ht => (g.inv.tab t ht).move (fun _ e => e) (fun _ h => .inl h) fun _ _ _ e => e, fun b h => ?_, g.inv.gens, g.inv.os⟩,
    fun b h => .inl (g.sub b h), fun b h => ?_, g.kept⟩, fun b h => .inl h, a, vs, rfl, .inr rfl, hl, hx.mono fun _ h => .inl h⟩
  · rcases h with h | rfl
    · exact g.inv.live b h
    · exact list_isSome hl
  · rcases h with h | rfl
    · exact g.inv.notab b h
    · exact g.inv.notab_list hl
  · rcases h with h | rfl
    · exact g.new b h
    · exact .inr (not_live h0)

theorem EvL.ev {e : Expr} {l : List VP} (h : EvL C fr n vals e l) : Ev C fr n vals e (vLst l) := fun hb env A S s F =>
  wpAny_mono (h hb env A S s F) (fun _ _ ⟨_, x⟩ => let ⟨S'', g, _, y⟩ := x.take; ⟨S'', g, y⟩) fun _ _ z => z

theorem FrameOk.storeOwn {hb env A S s vals S' s'} {x : Str} {v : Value} {l : List VP} {i : Nat} {Q : Unit → Shared → Prop} (F : FrameOk C fr n hb env A S s vals) (hi : fr.names[i]? = some x) (hnd : fr.names.Nodup) (hc : canStore fr x = true)
    (hf : Fresh C S s S' s' v l) (h : ∀ s'', Step C hb S s S' s'' → FrameOk C fr n hb env A S' s'' (vals.set i (.own l)) → StoreAt env s'.heap s''.heap → Q () s'') : wpAny C.M A (storeName env x v) Q F0 s' := by
  obtain ⟨g, a, vs, rfl, h0, nS, hl, hx⟩ := hf
  obtain ⟨f, hsl⟩ := F.slots
  have F' := F.grow g
  refine F'.storeSlot (t := .own l) hi hnd hc (hsl.grow F.inv g) a (fun h' h1 h2 h3 => ⟨h1, nS, ?_, vs, h3 _ _ hl, hx.keep h2⟩) (fun _ _ j l' hj _ e => ?_) fun s'' st F'' q => h s'' ((F.stepGrow g).trans st) F'' q
  · exact fun q => by have := F.alive a q; rw [h0] at this; cases this
  · have hj' : j < fr.names.length := by rw [hsl.1]; exact (List.getElem?_eq_some_iff.mp hj).1
    obtain ⟨_, _, _, _, ⟨o, k, e1, _⟩, _⟩ := hsl.2.1 j _ _ (List.getElem?_eq_getElem hj') hj
    rw [e, h0] at e1; cases e1

end
end Mine

set_option tactic.hygienic false
set_option genInjectivity false
set_option genSizeOf false
set_option genSizeOfSpec false
namespace Mine
open PySem PySem.W PyProof.Rows


structure ZI where
  i : Addr
  l : Addr
  vs : List Value

noncomputable abbrev IsTupL (h : Heap) (T : Addr) (xs : List Value) : Prop := h.get? T = some { cls := .type "tuple", data := .seq xs.toArray }
noncomputable abbrev IsZipL (h : Heap) (z TI TO : Addr) (f0 : Value) : Prop :=
  h.get? z = some { cls := .type "zip", dict := none, data := .fields #[f0, .bool false, .bool false, .ref TI, .ref TO], slots := #[] }

theorem cls_ne {h : Heap} {a b : Addr} {oa ob : Obj} {A B : String} (ea : h.get? a = some oa) (eb : h.get? b = some ob) (ca : oa.cls = .type A) (cb : ob.cls = .type B) (hc : A ≠ B) : a ≠ b := by
  rintro rfl
  rw [ea] at eb; cases eb
  rw [ca] at cb; exact hc (Value.type.inj cb)
theorem iter_cls {h : Heap} {i l : Addr} {k : Nat} (x : h.IsListIter i l k) : ∃ o, h.get? i = some o ∧ o.cls = .type "list_iterator" := by obtain ⟨o, e, c, _⟩ := x; exact ⟨o, e, c⟩
theorem iter_same {h h' : Heap} {i l a : Addr} {k : Nat} (x : h.IsListIter i l k) (hs : Heap.SameBut a h h') (n : i ≠ a) : h'.IsListIter i l k := by
  obtain ⟨o, e, r⟩ := x; exact ⟨o, (hs.2 i n).trans e, r⟩
theorem isList_same {h h' : Heap} {l a : Addr} {its : Array Value} (x : h.IsList l its) (hs : Heap.SameBut a h h') (n : l ≠ a) : h'.IsList l its := by
  obtain ⟨o, e, r⟩ := x; exact ⟨o, (hs.2 l n).trans e, r⟩


structure ZipAt (h : Heap) (z TI TO : Addr) (q : List ZI) (k : Nat) (f0 : Value) : Prop where
  hz : IsZipL h z TI TO f0
  hTI : IsTupL h TI (q.map fun p => .ref p.i)
  hTO : ∃ kept : List Value, kept.length = q.length ∧ IsTupL h TO kept
  its : ∀ p ∈ q, h.IsListIter p.i p.l k
  ls : ∀ p ∈ q, h.IsList p.l p.vs.toArray
  nd : (q.map (·.i)).Nodup
  ne : TI ≠ TO


structure ZipMid (h₀ h : Heap) (z TI TO : Addr) (q : List ZI) (k j : Nat) : Prop where
  hz : IsZipL h z TI TO .ellipsis
  hTO : ∃ kept : List Value, kept.length = q.length ∧ IsTupL h TO kept ∧ ∀ m p, m < j → q[m]? = some p → kept[m]? = p.vs[k]?
  its : ∀ m p, q[m]? = some p → h.IsListIter p.i p.l (if m < j then k + 1 else k)
  ls : ∀ p ∈ q, h.IsList p.l p.vs.toArray
  frame : ∀ c o, c ≠ z → c ≠ TO → (∀ p ∈ q, c ≠ p.i) → h₀.get? c = some o → h.get? c = some o
  size : h.objs.size = h₀.objs.size

section
variable {prog : Program} {w : World} {A : Around} {E : Value → Shared → Prop} {s : Shared}

theorem forIn_zipIdx {α β : Type} {M : Model} {b0 : β} {body : α × Nat → β → Sem (ForInStep β)} (J : Nat → Shared → Prop) : ∀ (xs : List α) (j : Nat) (s : Shared),
    (∀ m x s, xs[m]? = some x → J (j + m) s → wpAny M A (body (x, j + m) b0) (fun r s' => r = .yield b0 ∧ J (j + m + 1) s') E s) → J j s →
    wpAny M A (forIn (xs.zipIdx j) b0 body) (fun b s' => b = b0 ∧ J (j + xs.length) s') E s
  | [], j, s, _, h => wpAny_pure ⟨rfl, h⟩
  | x :: xs, j, s, st, h => by
    rw [List.zipIdx_cons, List.forIn_cons]
    refine wpAny_bind (wpAny_mono (st 0 x s rfl h) (fun r s' pq => ?_) fun _ _ z => z)
    obtain ⟨rfl, h'⟩ := pq
    have e : j + (x :: xs).length = j + 1 + xs.length := by rw [List.length_cons]; lia
    rw [e]
    refine forIn_zipIdx J xs (j + 1) s' (fun m y s'' hm hJ => ?_) h'
    have e2 : j + 1 + m = j + (m + 1) := by lia
    rw [e2] at hJ ⊢
    exact st (m + 1) y s'' hm hJ

theorem ZipMid.step {h₀ : Heap} {z TI TO : Addr} {q : List ZI} {k j : Nat} {p : ZI} {x : Value} {Q : Value → Shared → Prop} (Z : ZipMid h₀ s.heap z TI TO q k j) (hj : q[j]? = some p) (hx : p.vs[k]? = some x)
    (h : ∀ h', Heap.SameBut p.i s.heap h' → h'.IsListIter p.i p.l (k + 1) → Q x { s with heap := h' }) : wpAny (model prog w) A (Builtin.SmallTypes.nextOf (.ref p.i)) Q E s := by
  have hi := Z.its j p hj
  rw [if_neg (Nat.lt_irrefl j)] at hi
  exact wpAny_nextOf_list_item hi (Z.ls p (List.mem_of_getElem? hj)) (by simpa using hx) fun h' a b => h h' b a

theorem ZipMid.put {h₀ h h₁ h₂ : Heap} {z TI TO : Addr} {q : List ZI} {k j : Nat} {p : ZI} {x : Value} {kept : List Value} (Z : ZipMid h₀ h z TI TO q k j) (nd : (q.map (·.i)).Nodup) (hj : q[j]? = some p) (hx : p.vs[k]? = some x)
    (hk : kept.length = q.length) (hT : IsTupL h TO kept) (hall : ∀ m p, m < j → q[m]? = some p → kept[m]? = p.vs[k]?) (s1 : Heap.SameBut p.i h h₁) (hi : h₁.IsListIter p.i p.l (k + 1)) (s2 : Heap.SameBut TO h₁ h₂) (hT2 : IsTupL h₂ TO (kept.set j x)) : ZipMid h₀ h₂ z TI TO q k (j + 1) := by
  have hp := List.mem_of_getElem? hj
  obtain ⟨oi, ei, ci⟩ := iter_cls (Z.its j p hj)
  have zi : z ≠ p.i := cls_ne Z.hz ei rfl ci (by decide)
  have zT : z ≠ TO := cls_ne Z.hz hT rfl rfl (by decide)
  have iT : ∀ (m : Nat) (r : ZI), q[m]? = some r → r.i ≠ TO := fun m r hr => by obtain ⟨o, e, c⟩ := iter_cls (Z.its m r hr); exact cls_ne e hT c rfl (by decide)
  have kp : ∀ c, c ≠ p.i → c ≠ TO → h₂.get? c = h.get? c := fun c c1 c2 => (s2.2 c c2).trans (s1.2 c c1)
  refine ⟨(kp z zi zT).trans Z.hz, ⟨_, by rw [List.length_set, hk], hT2, fun m r hm hr => ?_⟩, fun m r hr => ?_, fun r hr => ?_, fun c o c1 c2 c3 e => ?_, by rw [s2.1, s1.1, Z.size]⟩
  · rcases Nat.lt_succ_iff_lt_or_eq.mp hm with hm | rfl
    · rw [List.getElem?_set_ne (Nat.ne_of_gt hm)]; exact hall m r hm hr
    · rw [hj] at hr; cases hr
      rw [hx, List.getElem?_set_self (by rw [hk]; exact (List.getElem?_eq_some_iff.mp hj).1)]
  · by_cases e : m = j
    · subst e
      rw [hj] at hr; cases hr
      rw [if_pos (Nat.lt_succ_self m)]
      exact iter_same hi s2 (iT _ _ hj)
    · have hne : r.i ≠ p.i := nodup_ne nd (by rw [List.getElem?_map, hj]; rfl) (by rw [List.getElem?_map, hr]; rfl) (Ne.symm e)
      have hlt : (m < j + 1) = (m < j) := propext ⟨fun a => Nat.lt_of_le_of_ne (Nat.lt_succ_iff.mp a) e, fun a => Nat.lt_succ_of_lt a⟩
      simp only [hlt]
      exact iter_same (iter_same (Z.its m r hr) s1 hne) s2 (iT m r hr)
  · obtain ⟨o, e, c, r'⟩ := Z.ls r hr
    have n1 : r.l ≠ p.i := cls_ne e ei c ci (by decide)
    have n2 : r.l ≠ TO := cls_ne e hT c rfl (by decide)
    exact ⟨o, (kp _ n1 n2).trans e, c, r'⟩
  · rw [kp c (c3 p hp) c2]; exact Z.frame c o c1 c2 c3 e

theorem zip_nextL {z TI TO : Addr} {q : List ZI} {k : Nat} {Q : Value → Shared → Prop} (Z : ZipAt s.heap z TI TO q k .none) (hq : q ≠ []) (hk : ∀ p ∈ q, k < p.vs.length)
    (hQ : ∀ h' xs, ZipAt h' z TI TO q (k + 1) (rawInt s.heap.objs.size) → xs.length = q.length → (∀ (m : Nat) (p : ZI), q[m]? = some p → xs[m]? = p.vs[k]?) → IsTupL h' s.heap.objs.size xs →
      (∀ c o, c ≠ z → c ≠ TO → (∀ p ∈ q, c ≠ p.i) → s.heap.get? c = some o → h'.get? c = some o) → Q (.ref s.heap.objs.size) { s with heap := h' }) (hsz : q.length ≤ sizeLine) :
    wpAny (model prog w) A (Builtin.«zip.__next__» ⟨[.ref z], []⟩) (fun fin s' => ∃ v, fin = .done (.ret v) ∧ Q v s') E s := by
  obtain ⟨kept0, hkl, hTO⟩ := Z.hTO
  have hz := Z.hz
  have zI : z ≠ TI := cls_ne hz Z.hTI rfl rfl (by decide)
  have zT : z ≠ TO := cls_ne hz hTO rfl rfl (by decide)
  have lstI : ∀ p ∈ q, p.l ≠ z := fun p hp => by obtain ⟨o, e, c, _⟩ := Z.ls p hp; exact cls_ne e hz c rfl (by decide)
  have itI : ∀ p ∈ q, p.i ≠ z := fun p hp => by obtain ⟨o, e, c⟩ := iter_cls (Z.its p hp); exact cls_ne e hz c rfl (by decide)
  show wpAny _ _ (field (.ref z) 2 >>= _) _ _ _
  refine wpAny_bind (wpAny_field hz rfl (x := .bool false) rfl ?_)
  show wpAny _ _ (field (.ref z) 3 >>= _) _ _ _
  refine wpAny_bind (wpAny_field hz rfl (x := .ref TI) rfl ?_)
  refine wpAny_bind (wpAny_seqItems Z.hTI rfl ?_)
  have hem : ((q.map fun p => Value.ref p.i).toArray).isEmpty = false := by
    cases q with
    | nil => exact absurd rfl hq
    | cons => rfl
  simp only [hem]
  show wpAny _ _ (Builtin.SmallTypes.ownedTupleIsFree (.ref z) >>= _) _ _ _
  refine wpAny_bind ?_
  unfold Builtin.SmallTypes.ownedTupleIsFree
  refine wpAny_bind (wpAny_field hz rfl (x := .none) rfl (wpAny_pure ?_))
  simp only [if_true]
  refine wpAny_bind (wpAny_rule ?_)
  refine wpAny_bind (wpAny_field hz rfl (x := .ref TO) rfl ?_)
  refine wpAny_bind (wpAny_setField_rec hz (by simp) fun h₁ hz₁ hs₁ => ?_)
  replace hz₁ : IsZipL h₁ z TI TO .ellipsis := hz₁
  have M0 : ZipMid s.heap h₁ z TI TO q k 0 := ⟨hz₁, ⟨kept0, hkl, (hs₁.2 _ zT.symm).trans hTO, fun m p hm => absurd hm (Nat.not_lt_zero m)⟩, fun m p hp => by
    rw [if_neg (Nat.not_lt_zero m)]; exact iter_same (Z.its p (List.mem_of_getElem? hp)) hs₁ (itI p (List.mem_of_getElem? hp)), fun p hp => isList_same (Z.ls p hp) hs₁ (lstI p hp), fun c o c1 _ _ e => (hs₁.2 c c1).trans e, hs₁.1⟩
  refine wpAny_bind (wpAny_mono (forIn_zipIdx (fun j s' => ∃ h', s' = { s with heap := h' } ∧ ZipMid s.heap h' z TI TO q k j) _ 0 _ (fun m x s' hm hJ => ?_) ⟨_, rfl, M0⟩) (fun r s' pq => ?_) fun _ _ z => z)
  · obtain ⟨h', rfl, ZM⟩ := hJ
    rw [Nat.zero_add] at ZM ⊢
    rw [List.getElem?_map] at hm
    obtain ⟨p, hp, rfl⟩ := Option.map_eq_some_iff.mp hm
    have hkp := hk p (List.mem_of_getElem? hp)
    have hx : p.vs[k]? = some p.vs[k] := List.getElem?_eq_getElem hkp
    obtain ⟨kept, k1, k2, k3⟩ := ZM.hTO
    have hpT : TO ≠ p.i := by obtain ⟨o, e, c⟩ := iter_cls (ZM.its m p hp); exact (cls_ne e k2 c rfl (by decide)).symm
    refine wpAny_bind (wpAny_onRaise ?_)
    show wpAny _ _ (Builtin.SmallTypes.nextOf (.ref p.i) >>= _) _ _ _
    refine wpAny_bind (ZM.step hp hx fun h2 s2 hi => wpAny_pure ?_)
    have k4 : IsTupL h2 TO kept := (s2.2 _ hpT).trans k2
    refine wpAny_bind (wpAny_seqItems k4 rfl ?_)
    have hszk : kept.toArray.size ≤ sizeLine := by rw [List.size_toArray, k1]; exact hsz
    refine wpAny_bind (wpAny_updateSeq k4 rfl (wpAny_bind (wpAny_letGo (wpAny_pure ⟨rfl, _, rfl, ?_⟩))) hszk (by rw [Array.size_setIfInBounds]; exact Nat.le_succ_of_le hszk))
    refine ZM.put Z.nd hp hx k1 k2 k3 s2 hi (Heap.SameBut.update ..) ?_
    have g := Heap.get?_update_self (Obj.mapSeq fun xs => xs.setIfInBounds m p.vs[k]) k4 rfl
    refine g.trans ?_
    simp [Obj.mapSeq]
  · obtain ⟨rfl, h₅, rfl, M5⟩ := pq
    rw [List.length_map, Nat.zero_add] at M5
    obtain ⟨kept, k1, k2, k3⟩ := M5.hTO
    have hTI₅ : IsTupL h₅ TI (q.map fun p => .ref p.i) := M5.frame _ _ zI.symm Z.ne (fun p hp => by obtain ⟨o, e, c⟩ := iter_cls (Z.its p hp); exact cls_ne Z.hTI e rfl c (by decide)) Z.hTI
    refine wpAny_bind (wpAny_seqItems k2 rfl ?_)
    refine wpAny_bind (wpAny_newTuple ?_ (by rw [List.toList_toArray, k1]; exact hsz))
    show wpAny _ _ (Builtin.SmallTypes.ownedTupleHandOut (.ref z) (.ref h₅.objs.size) >>= _) _ _ _
    refine wpAny_bind ?_
    unfold Builtin.SmallTypes.ownedTupleHandOut
    have hz₆ : IsZipL (h₅.push { cls := .type "tuple", data := .seq kept.toArray.toList.toArray }) z TI TO .ellipsis := Heap.get?_push_of_some _ M5.hz
    refine wpAny_bind (wpAny_setField_rec hz₆ (by simp) fun h₇ hz₇ hs₇ => ?_)
    replace hz₇ : IsZipL h₇ z TI TO (rawInt h₅.objs.size) := hz₇
    refine wpAny_setField_rec hz₇ (by simp) fun h₈ hz₈ hs₈ => ?_
    replace hz₈ : IsZipL h₈ z TI TO (rawInt h₅.objs.size) := hz₈
    have up : ∀ c o, c ≠ z → h₅.get? c = some o → h₈.get? c = some o := fun c o c1 e => hs₈.extBut _ _ c1 (hs₇.extBut _ _ c1 (Heap.get?_push_of_some _ e))
    have hT₈ : IsTupL h₈ h₅.objs.size kept := hs₈.extBut _ _ (Nat.ne_of_gt (Heap.lt_size M5.hz)) (hs₇.extBut _ _ (Nat.ne_of_gt (Heap.lt_size M5.hz)) (Heap.get?_push_size _ rfl))
    refine wpAny_pure ⟨_, rfl, ?_⟩
    show Q (.ref h₅.objs.size) _
    rw [M5.size] at hz₈ hT₈ ⊢
    refine hQ h₈ kept ⟨hz₈, up _ _ zI.symm hTI₅, ⟨kept, k1, up _ _ zT.symm k2⟩, fun p hp => ?_, fun p hp => ?_, Z.nd, Z.ne⟩ k1 (fun m p hp => k3 m p (List.getElem?_eq_some_iff.mp hp).1 hp) hT₈ fun c o c1 c2 c3 e => up c o c1 (M5.frame c o c1 c2 c3 e)
    · obtain ⟨m, hm⟩ := List.mem_iff_getElem?.mp hp
      have := M5.its m p hm
      rw [if_pos (List.getElem?_eq_some_iff.mp hm).1] at this
      obtain ⟨o, e, r⟩ := this
      exact ⟨o, up _ _ (itI p hp) e, r⟩
    · obtain ⟨o, e, r⟩ := M5.ls p hp
      exact ⟨o, up _ _ (lstI p hp) e, r⟩

theorem zip_endL {z TI TO : Addr} {p : ZI} {q : List ZI} {k : Nat} {Q : Fin → Shared → Prop} (hh : A.handled = none) (Z : ZipAt s.heap z TI TO (p :: q) k .none) (hk : p.vs.length ≤ k)
    (hE : ∀ h' e, (∀ c o, c ≠ z → c ≠ TO → (∀ r ∈ p :: q, c ≠ r.i) → s.heap.get? c = some o → h'.get? c = some o) → (∃ o, h'.get? e = some o ∧ o.cls = .type "StopIteration") → E (.ref e) { s with heap := h' }) :
    wpAny (model prog w) A (Builtin.«zip.__next__» ⟨[.ref z], []⟩) Q E s := by
  obtain ⟨kept0, hkl, hTO⟩ := Z.hTO
  have hz := Z.hz
  have hp : p ∈ p :: q := .head _
  show wpAny _ _ (field (.ref z) 2 >>= _) _ _ _
  refine wpAny_bind (wpAny_field hz rfl (x := .bool false) rfl ?_)
  show wpAny _ _ (field (.ref z) 3 >>= _) _ _ _
  refine wpAny_bind (wpAny_field hz rfl (x := .ref TI) rfl ?_)
  refine wpAny_bind (wpAny_seqItems Z.hTI rfl ?_)
  show wpAny _ _ (Builtin.SmallTypes.ownedTupleIsFree (.ref z) >>= _) _ _ _
  refine wpAny_bind ?_
  unfold Builtin.SmallTypes.ownedTupleIsFree
  refine wpAny_bind (wpAny_field hz rfl (x := .none) rfl (wpAny_pure ?_))
  simp only [if_true]
  refine wpAny_bind (wpAny_rule ?_)
  refine wpAny_bind (wpAny_field hz rfl (x := .ref TO) rfl ?_)
  refine wpAny_bind (wpAny_setField_rec hz (by simp) fun h₁ hz₁ hs₁ => ?_)
  replace hz₁ : IsZipL h₁ z TI TO .ellipsis := hz₁
  obtain ⟨oi, ei, ci⟩ := iter_cls (Z.its p hp)
  have iz : p.i ≠ z := cls_ne ei hz ci rfl (by decide)
  have lz : p.l ≠ z := by obtain ⟨o, e, c, _⟩ := Z.ls p hp; exact cls_ne e hz c rfl (by decide)
  refine wpAny_bind ?_
  simp only [List.map_cons, List.zipIdx_cons, List.forIn_cons]
  refine wpAny_bind (wpAny_bind (wpAny_onRaise ?_))
  show wpAny _ _ (Builtin.SmallTypes.nextOf (.ref p.i) >>= _) _ _ _
  refine wpAny_bind (wpAny_nextOf_list_end hh (iter_same (Z.its p hp) hs₁ iz) (isList_same (Z.ls p hp) hs₁ lz) (by simpa using hk) fun h₂ e hs₂ he => ?_)
  obtain ⟨oe, hoe, hce⟩ := he
  have hz₂ : IsZipL h₂ z TI TO .ellipsis := hs₂ _ _ iz.symm hz₁
  have hez : e ≠ z := cls_ne hoe hz₂ hce rfl (by decide)
  exact wpAny_setField_rec hz₂ (by simp) fun h₃ _ hs₃ => hE h₃ e (fun c o c1 _ c3 x => hs₃.extBut _ _ c1 (hs₂ _ _ (c3 p hp) (hs₁.extBut _ _ c1 x))) ⟨oe, hs₃.extBut _ _ hez hoe, hce⟩

theorem pyNext_zipL {z TI TO : Addr} {q : List ZI} {k : Nat} {Q : Option Value → Shared → Prop} (Z : ZipAt s.heap z TI TO q k .none) (hq : q ≠ []) (hk : ∀ p ∈ q, k < p.vs.length)
    (hQ : ∀ h' xs, ZipAt h' z TI TO q (k + 1) (rawInt s.heap.objs.size) → xs.length = q.length → (∀ (m : Nat) (p : ZI), q[m]? = some p → xs[m]? = p.vs[k]?) → IsTupL h' s.heap.objs.size xs →
      (∀ c o, c ≠ z → c ≠ TO → (∀ p ∈ q, c ≠ p.i) → s.heap.get? c = some o → h'.get? c = some o) → Q (some (.ref s.heap.objs.size)) { s with heap := h' }) (hsz : q.length ≤ sizeLine) :
    wpAny (model prog w) A (pyNext (.ref z)) Q E s := by
  have hT : s.TypeIs (.ref z) "zip" := ⟨_, Z.hz, rfl⟩
  unfold pyNext
  exact wpAny_bind (wpAny_attempt (wpAny_callSpecial?_slot (name := Str.ofString "__next__") hT PySem.F.slot_zip_next
    (wpAny_call_entry PySem.F.slot_zip_next hT PySem.F.entry_zip_next (zip_nextL Z hq hk (fun h' xs a1 a2 a3 a4 a5 => wpAny_pure (hQ h' xs a1 a2 a3 a4 a5)) hsz) (PySem.F.args_zip_next_1 _))))

theorem pyNext_zip_endL {z TI TO : Addr} {p : ZI} {q : List ZI} {k : Nat} {Q : Option Value → Shared → Prop} (hh : A.handled = none) (Z : ZipAt s.heap z TI TO (p :: q) k .none) (hk : p.vs.length ≤ k)
    (hQ : ∀ h', (∀ c o, c ≠ z → c ≠ TO → (∀ r ∈ p :: q, c ≠ r.i) → s.heap.get? c = some o → h'.get? c = some o) → Q none { s with heap := h' }) : wpAny (model prog w) A (pyNext (.ref z)) Q E s := by
  have hT : s.TypeIs (.ref z) "zip" := ⟨_, Z.hz, rfl⟩
  unfold pyNext
  refine wpAny_bind (wpAny_attempt (wpAny_callSpecial?_slot (name := Str.ofString "__next__") hT PySem.F.slot_zip_next
    (wpAny_call_entry PySem.F.slot_zip_next hT PySem.F.entry_zip_next (zip_endL hh Z hk fun h' e hk he => ?_) (PySem.F.args_zip_next_1 _))))
  obtain ⟨o, ho, hc⟩ := he
  refine wpAny_bind (wpAny_isInstance (T := "StopIteration") (b := true) ⟨o, ho, hc⟩ isSubtype_stop ?_)
  exact wpAny_pure (hQ _ hk)

theorem letgo_zipL {elts : List Expr} {x1 : Nat} {pos : Pos} {z TI TO T : Addr} {q : List ZI} {k : Nat} {Q : Unit → Shared → Prop} (Z : ZipAt s.heap z TI TO q k (rawInt T))
    (hQ : ∀ h', ZipAt h' z TI TO q k .none → Heap.SameBut z s.heap h' → Q () { s with heap := h' }) :
    wpAny (model prog w) A (letOwnedTupleGo (.Tuple elts x1 pos) (.ref z) (.ref T)) Q E s := by
  have hz := Z.hz
  refine wpAny_letOwnedTupleGo_zip hz fun h' hz' hs' => hQ h' ?_ hs'
  obtain ⟨kept0, hkl, hTO⟩ := Z.hTO
  refine ⟨hz', (hs'.2 _ (cls_ne Z.hTI hz rfl rfl (by decide))).trans Z.hTI, ⟨kept0, hkl, (hs'.2 _ (cls_ne hTO hz rfl rfl (by decide))).trans hTO⟩, fun p hp => ?_, fun p hp => ?_, Z.nd, Z.ne⟩
  · obtain ⟨o, e, c⟩ := iter_cls (Z.its p hp); exact iter_same (Z.its p hp) hs' (cls_ne e hz c rfl (by decide))
  · obtain ⟨o, e, c, _⟩ := Z.ls p hp; exact isList_same (Z.ls p hp) hs' (cls_ne e hz c rfl (by decide))


noncomputable def pushIts : Heap → List (Addr × List Value) → Heap
  | h, [] => h
  | h, p :: r => pushIts (h.push { cls := .type "list_iterator", data := .fields #[.ref p.1, .int 0 0] }) r
noncomputable def zipQ (k : Nat) : List (Addr × List Value) → List ZI
  | [] => []
  | p :: r => ⟨k, p.1, p.2⟩ :: zipQ (k + 1) r
theorem zipQ_length : ∀ (ls : List (Addr × List Value)) (k : Nat), (zipQ k ls).length = ls.length
  | [], _ => rfl
  | _ :: r, k => congrArg Nat.succ (zipQ_length r (k + 1))
theorem zipQ_ge : ∀ (ls : List (Addr × List Value)) (k : Nat) (p : ZI), p ∈ zipQ k ls → k ≤ p.i ∧ (p.l, p.vs) ∈ ls
  | [], _, _, h => nomatch h
  | a :: r, k, p, h => by
    rcases List.mem_cons.mp h with rfl | h
    · exact ⟨Nat.le_refl _, .head _⟩
    · have := zipQ_ge r (k + 1) p h; exact ⟨Nat.le_of_succ_le this.1, .tail _ this.2⟩
theorem zipQ_nodup : ∀ (ls : List (Addr × List Value)) (k : Nat), ((zipQ k ls).map (·.i)).Nodup
  | [], _ => List.nodup_nil
  | a :: r, k => by
    refine List.nodup_cons.mpr ⟨fun h => ?_, zipQ_nodup r (k + 1)⟩
    obtain ⟨p, hp, e⟩ := List.mem_map.mp h
    have := (zipQ_ge r (k + 1) p hp).1
    rw [e] at this
    exact Nat.not_succ_le_self k this
theorem pushIts_keep : ∀ (ls : List (Addr × List Value)) {h : Heap} {c : Addr} {o : Obj}, h.get? c = some o → (pushIts h ls).get? c = some o
  | [], _, _, _, e => e
  | _ :: r, _, _, _, e => pushIts_keep r (Heap.get?_push_of_some _ e)
theorem pushIts_size : ∀ (ls : List (Addr × List Value)) (h : Heap), (pushIts h ls).objs.size = h.objs.size + ls.length
  | [], _ => rfl
  | _ :: r, h => by rw [pushIts, pushIts_size r, Heap.size_push, List.length_cons]; lia
theorem pushIts_its : ∀ (ls : List (Addr × List Value)) (h : Heap), ∀ p ∈ zipQ h.objs.size ls, (pushIts h ls).IsListIter p.i p.l 0
  | [], _, _, hp => nomatch hp
  | a :: r, h, p, hp => by
    rcases List.mem_cons.mp hp with rfl | hp
    · exact ⟨_, pushIts_keep r (Heap.get?_push_size _ rfl), rfl, rfl⟩
    · exact pushIts_its r _ p (by rw [Heap.size_push]; exact hp)

theorem forIn_iters {M : Model} {body : Value → Array Value → Sem (ForInStep (Array Value))} (hb : ∀ l its, body (.ref l) its = do let r ← holding its.toList (pyIter (.ref l)); pure (.yield (its.push r))) : ∀ (ls : List (Addr × List Value)) (its : Array Value) (s : Shared) {prog : Program} {w : World},
    (∀ p ∈ ls, s.heap.IsList p.1 p.2.toArray) → wpAny (model prog w) A (forIn (ls.map fun p => Value.ref p.1) its body) (fun r s' => r = its ++ ((zipQ s.heap.objs.size ls).map fun p => Value.ref p.i).toArray ∧ s' = { s with heap := pushIts s.heap ls }) E s
  | [], its, s, _, _, _ => wpAny_pure ⟨by simp [zipQ], rfl⟩
  | p :: ls, its, s, prog, w, h => by
    rw [List.map_cons, List.forIn_cons, hb]
    refine wpAny_bind (wpAny_bind (wpAny_holding (wpAny_pyIter_list (h p (.head _)) (wpAny_pure ?_))))
    refine wpAny_mono (forIn_iters (M := M) hb ls _ _ fun r hr => ?_) (fun r s' pq => ?_) fun _ _ z => z
    · obtain ⟨o, e, q⟩ := h r (.tail _ hr)
      exact ⟨o, Heap.get?_push_of_some _ e, q⟩
    · obtain ⟨rfl, rfl⟩ := pq
      refine ⟨?_, rfl⟩
      rw [Heap.size_push]
      simp [zipQ]

end

noncomputable abbrev zipM1 (h : Heap) (ls : List (Addr × List Value)) : Heap := (pushIts h ls).push { cls := .type "tuple", data := .seq ((zipQ h.objs.size ls).map fun p => Value.ref p.i).toArray }
noncomputable abbrev zipM2 (h : Heap) (ls : List (Addr × List Value)) : Heap := (zipM1 h ls).push { cls := .type "tuple", data := .seq (((zipQ h.objs.size ls).map fun p => Value.ref p.i).map fun _ => Value.none).toArray }
noncomputable abbrev zipM (h : Heap) (ls : List (Addr × List Value)) : Heap := (zipM2 h ls).push { cls := .type "zip", data := .fields #[.none, .bool false, .bool false, .ref (pushIts h ls).objs.size, .ref (zipM1 h ls).objs.size] }

theorem meets_zipL (ls : List (Addr × List Value)) (hsz : ls.length ≤ sizeLine) :
    Meets (Builtin.«zip.__new__» ⟨.type "zip" :: ls.map fun p => Value.ref p.1, []⟩) (fun _ R s => (∀ p ∈ ls, s.heap.IsList p.1 p.2.toArray) ∧
      R (.ok (.ret (.ref (zipM2 s.heap ls).objs.size))) { s with heap := zipM s.heap ls }) :=
  .of_wp fun prog w A R s h => by
    obtain ⟨hp, g, d, tk, os⟩ := s; obtain ⟨hl, h⟩ := h
    have hsub := sub_zip
    have hlen : ((zipQ hp.objs.size ls).map fun p => Value.ref p.i).length ≤ sizeLine := by rw [List.length_map, zipQ_length]; exact hsz
    wp_walk
    refine wpAny_mono (forIn_iters (M := model prog w) (body := fun x its => do let r ← holding its.toList (pyIter x); pure (.yield (its.push r))) (fun l its => rfl) ls #[] _ hl) (fun r s' pq => ?_) fun _ _ z => z
    obtain ⟨rfl, rfl⟩ := pq
    refine wpAny_pure ?_
    rw [Array.empty_append, List.toList_toArray]
    refine wpAny_bind (wpAny_newTuple ?_ hlen)
    refine wpAny_bind (wpAny_newTuple ?_ (by rw [List.length_map]; exact hlen))
    wp_walk
    exact ⟨_, rfl, h⟩

section
variable {prog : Program} {w : World} {A : Around} {E : Value → Shared → Prop} {s : Shared}

theorem call_zipL {ls : List (Addr × List Value)} {Q : Value → Shared → Prop} (hl : ∀ p ∈ ls, s.heap.IsList p.1 p.2.toArray) (hsz : ls.length ≤ sizeLine)
    (h1 : checkTypeCall "zip" ⟨ls.map fun p => Value.ref p.1, []⟩ = pure ()) (h2 : checkBuiltinCall "zip.__new__" ⟨.type "zip" :: ls.map fun p => Value.ref p.1, []⟩ = pure ()) (h3 : ∀ obj, argsOk "object.__init__" ⟨obj :: ls.map fun p => Value.ref p.1, []⟩)
    (h : ∀ h' z TI TO, ZipAt h' z TI TO (zipQ s.heap.objs.size ls) 0 .none → (∀ c o, s.heap.get? c = some o → h'.get? c = some o) → s.heap.get? z = none → s.heap.get? TI = none → s.heap.get? TO = none → Q (.ref z) { s with heap := h' }) :
    wpAny (model prog w) A (call (.type "zip") (ls.map fun p => Value.ref p.1)) Q E s := by
  refine callType_new PySem.F.called_zip (by decide) h1 h2 h3 PySem.F.entry_zip_new (meets_zipL ls hsz) ⟨hl, ?_⟩
  have none_ge : ∀ a, s.heap.objs.size ≤ a → s.heap.get? a = none := fun a ha => by
    cases e : s.heap.get? a with
    | none => rfl
    | some o => exact absurd (Heap.lt_size e) (Nat.not_lt.mpr ha)
  have z0 : s.heap.objs.size ≤ (pushIts s.heap ls).objs.size := by rw [pushIts_size]; exact Nat.le_add_right _ _
  have z1 : (zipM1 s.heap ls).objs.size = (pushIts s.heap ls).objs.size + 1 := Heap.size_push ..
  have z2 : (zipM2 s.heap ls).objs.size = (zipM1 s.heap ls).objs.size + 1 := Heap.size_push ..
  have g3 : (zipM s.heap ls).get? (zipM2 s.heap ls).objs.size = some _ := Heap.get?_push_size _ rfl
  have g2 : (zipM s.heap ls).get? (zipM1 s.heap ls).objs.size = some _ := Heap.get?_push_of_some _ (Heap.get?_push_size _ rfl)
  have g1 : (zipM s.heap ls).get? (pushIts s.heap ls).objs.size = some _ := Heap.get?_push_of_some _ (Heap.get?_push_of_some _ (Heap.get?_push_size _ rfl))
  have up : ∀ c o, (pushIts s.heap ls).get? c = some o → (zipM s.heap ls).get? c = some o := fun c o e => Heap.get?_push_of_some _ (Heap.get?_push_of_some _ (Heap.get?_push_of_some _ e))
  refine ⟨⟨_, g3, rfl⟩, h _ _ _ _ ⟨g3, g1, ⟨_, by rw [List.length_map, List.length_map], g2⟩, fun p hp => ?_, fun p hp => ?_, zipQ_nodup _ _, by rw [z1]; exact Nat.ne_of_lt (Nat.lt_succ_self _)⟩ (fun c o e => up _ _ (pushIts_keep ls e)) (none_ge _ ?_) (none_ge _ z0) (none_ge _ ?_)⟩
  · obtain ⟨o, e, r⟩ := pushIts_its ls s.heap p hp
    exact ⟨o, up _ _ e, r⟩
  · obtain ⟨o, e, r⟩ := hl _ (zipQ_ge ls _ p hp).2
    exact ⟨o, up _ _ (pushIts_keep ls e), r⟩
  · rw [z2, z1]; exact Nat.le_succ_of_le (Nat.le_succ_of_le z0)
  · rw [z1]; exact Nat.le_trans z0 (Nat.le_add_right _ _)
theorem pyIter_zipL {z TI TO : Addr} {f0 : Value} {Q : Value → Shared → Prop} (hz : IsZipL s.heap z TI TO f0) (h : Q (.ref z) s) : wpAny (model prog w) A (pyIter (.ref z)) Q E s := wpAny_pyIter_zip hz h
end
end Mine

set_option tactic.hygienic false
namespace Mine
open PySem PySem.W PyProof.Rows

section
variable {C : Cx} {fr : Shape} {n : Nat} {vals vals' : List Slot}

theorem SlotsAt.own {f : Nat → Addr} {hb : ASet} {env : Env} {S : ASet} {h : Heap} {i : Nat} {x : Str} {l : List VP} {names : List Str} (hsl : SlotsAt f hb env names S h vals) (hi : names[i]? = some x) (hv : vals[i]? = some (.own l)) :
    Holds env h x (.ref (f i)) ∧ ¬ S (f i) ∧ ¬ hb (f i) ∧ ∃ vs, PL h (f i) (List.toArray vs) ∧ All2 S h vs l := hsl.2.1 i x _ hi hv

theorem Holds.sameList {env : Env} {h h' : Heap} {a : Addr} {its : Array Value} {y : Str} {u : Value} (hl : PL h a its) (hs : Heap.SameBut a h h') (x : Holds env h y u) : Holds env h' y u := by
  rcases x with ⟨k, m, hm, e⟩ | ⟨k, c, e, z⟩
  · exact .inl ⟨k, m, hm.sameBut hs (Ne.symm (list_ne_ns hl hm)), e⟩
  · exact .inr ⟨k, c, e, z.sameBut hs (Ne.symm (list_ne_cell hl z))⟩

theorem FrameOk.mutate {hb env A S s} {f : Nat → Addr} {i : Nat} {x : Str} {l l' : List VP} {vs vs' : List Value} {h' : Heap} {tk : Nat} (F : FrameOk C fr n hb env A S s vals) (hsl : SlotsAt f hb env fr.names S s.heap vals)
    (hi : fr.names[i]? = some x) (hv : vals[i]? = some (.own l)) (hl : PL s.heap (f i) (List.toArray vs)) (hs : Heap.SameBut (f i) s.heap h') (hl' : PL h' (f i) (List.toArray vs')) (hx : All2 S s.heap vs' l') :
    Step C hb S s S { s with heap := h', toks := tk } ∧ FrameOk C fr n hb env A S { s with heap := h', toks := tk } (vals.set i (.own l')) := by
  obtain ⟨hH, nS, nb, _⟩ := hsl.own hi hv
  have st := step_sameBut (hb := hb) (tk := tk) F.inv hs nS (F.inv.notab_list hl) nb
  have kp : ∀ a o, S a → s.heap.get? a = some o → h'.get? a = some o := fun a o ha e => (hs.2 a fun q => nS (q ▸ ha)).trans e
  refine ⟨st, st.inv, F.scope, F.kind, F.globals, F.builtins, F.around, fun b q => st.alive (.inl q) (F.alive b q), ?_, F.locNot, fun y c q => ?_, F.apart, F.ownc, f, by simpa using hsl.1, fun j y u hy hu => ?_, fun j k p p' hj hk e => ?_⟩
  · obtain ⟨m, hm⟩ := F.ns; exact ⟨m, hm.sameBut hs (Ne.symm (list_ne_ns hl hm))⟩
  · obtain ⟨u, z⟩ := F.cells y c q; exact ⟨u, z.sameBut hs (Ne.symm (list_ne_cell hl z))⟩
  · by_cases e : j = i
    · subst e
      rw [hi] at hy; cases hy
      cases set_self hu
      exact ⟨hH.sameList hl hs, nS, nb, vs', hl', hx.keep kp⟩
    · rw [List.getElem?_set_ne (Ne.symm e)] at hu
      have q := hsl.2.1 j y u hy hu
      cases u with
      | un => trivial
      | val p => obtain ⟨w, a, b⟩ := q; exact ⟨w, a.sameList hl hs, p.keep kp b⟩
      | own p => obtain ⟨a, b, c, ws, d, e'⟩ := q; exact ⟨a.sameList hl hs, b, c, ws, list_sameBut d hs (fun q => e (hsl.2.2 _ _ _ _ hu hv q)), e'.keep kp⟩
  · have own : ∀ (j : Nat) (p : List VP), (vals.set i (Slot.own l'))[j]? = some (Slot.own p) → ∃ p', vals[j]? = some (Slot.own p') := fun j p q => by
      by_cases e : i = j
      · subst e; exact ⟨l, hv⟩
      · rw [List.getElem?_set_ne e] at q; exact ⟨p, q⟩
    obtain ⟨_, hj⟩ := own _ _ hj
    obtain ⟨_, hk⟩ := own _ _ hk
    exact hsl.2.2 j k _ _ hj hk e


theorem FrameOk.freeze {hb env A S s} {i : Nat} {x : Str} {l : List VP} (F : FrameOk C fr n hb env A S s vals) (hi : fr.names[i]? = some x) (hv : vals[i]? = some (.own l)) :
    ∃ b its, PL s.heap b its ∧ ¬ S b ∧ Step C hb S s (fun a => S a ∨ a = b) s ∧ FrameOk C fr n hb env A (fun a => S a ∨ a = b) s (vals.set i (.val (vLst l))) := by
  obtain ⟨f, hsl⟩ := F.slots
  obtain ⟨hH, nS, nb, vs, hl, hx⟩ := hsl.own hi hv
  have sub : ∀ a, S a → (S a ∨ a = f i) := fun _ h => .inl h
  refine ⟨f i, _, hl, nS, ⟨⟨fun b o e => ⟨(F.inv.base b o e).1, .inl (F.inv.base b o e).2⟩, fun b h => ?_, fun t ht => (F.inv.tab t ht).move (fun _ e => e) sub fun _ _ _ e => e, fun b h => ?_, F.inv.gens, F.inv.os⟩,
    sub, fun b h => h.imp id fun e => by rw [e]; exact nb, fun _ _ _ _ e => e⟩, ?_⟩
  · rcases h with h | rfl
    · exact F.inv.live b h
    · exact list_isSome hl
  · rcases h with h | rfl
    · exact F.inv.notab b h
    · exact F.inv.notab_list hl
  · have I' : Inv C (fun a => S a ∨ a = f i) s := ⟨fun b o e => ⟨(F.inv.base b o e).1, .inl (F.inv.base b o e).2⟩, fun b h => by
      rcases h with h | rfl
      · exact F.inv.live b h
      · exact list_isSome hl, fun t ht => (F.inv.tab t ht).move (fun _ e => e) sub fun _ _ _ e => e, fun b h => by
      rcases h with h | rfl
      · exact F.inv.notab b h
      · exact F.inv.notab_list hl, F.inv.gens, F.inv.os⟩
    refine ⟨I', F.scope, F.kind, F.globals, F.builtins, F.around, F.alive, F.ns, ⟨fun h => h.elim F.locNot.1 fun e => ?_, F.locNot.2⟩, F.cells, F.apart, fun y hy => ?_, f, by simpa using hsl.1, fun j y u hy hu => ?_, fun j k p p' hj hk e => ?_⟩
    · obtain ⟨m, hm⟩ := F.ns; exact list_ne_ns hl hm e.symm
    · obtain ⟨c, e1, e2, e3⟩ := F.ownc y hy
      obtain ⟨u, z⟩ := F.cells y c e1
      exact ⟨c, e1, e2, fun h => h.elim e3 fun e => list_ne_cell hl z e.symm⟩
    · by_cases e : j = i
      · subst e
        rw [hi] at hy; cases hy
        cases set_self hu
        exact ⟨.ref (f j), hH, f j, vs, rfl, .inr rfl, hl, hx.mono sub⟩
      · rw [List.getElem?_set_ne (Ne.symm e)] at hu
        have q := hsl.2.1 j y u hy hu
        cases u with
        | un => trivial
        | val p => obtain ⟨w, a, b⟩ := q; exact ⟨w, a, p.mono sub b⟩
        | own p => obtain ⟨a, b, c, ws, d, e'⟩ := q; exact ⟨a, fun h => h.elim b fun q => e (hsl.2.2 _ _ _ _ hu hv q), c, ws, d, e'.mono sub⟩
    · have own : ∀ (j : Nat) (p : List VP), (vals.set i (Slot.val (vLst l)))[j]? = some (Slot.own p) → vals[j]? = some (Slot.own p) := fun j p q => by
        by_cases e : i = j
        · subst e; cases set_self q
        · rwa [List.getElem?_set_ne e] at q
      exact hsl.2.2 j k _ _ (own _ _ hj) (own _ _ hk) e

theorem Ex.freeze {ss : List Stmt} {o : Out} {x : Str} {l : List VP} (i : Nat) (hi : fr.names[i]? = some x) (hv : vals[i]? = some (.own l)) (h : Ex C fr n (vals.set i (.val (vLst l))) ss o) : Ex C fr n vals ss o := fun hb env A S s F => by
  obtain ⟨b, its, _, _, st, F'⟩ := F.freeze hi hv
  exact wpAny_mono (h hb env A _ s F') (fun f s' ⟨S'', g, y⟩ => ⟨S'', st.trans g, y⟩) fun _ _ z => z


theorem back_grow {S S'' : ASet} {s s' : Shared} {b : Addr} {its : Array Value} (I : Inv C S s) (hl : PL s.heap b its) (nS : ¬ S b) (g : Grow C (fun a => S a ∨ a = b) s S'' s') : Grow C S s (fun a => S'' a ∧ a ≠ b) s' := by
  have nt := I.notab_list hl
  have hl' : PL s'.heap b its := by obtain ⟨o, k, e, r⟩ := hl; exact ⟨o, k, g.all _ _ nt e, r⟩
  refine ⟨⟨fun c o e => ⟨(g.inv.base c o e).1, (g.inv.base c o e).2, fun q => nS (q ▸ (I.base c o e).2)⟩, fun a h => g.inv.live a h.1, fun t ht => ?_, fun a h => g.inv.notab a h.1, g.inv.gens, g.inv.os⟩,
    fun a h => ⟨g.sub a (.inl h), fun q => nS (q ▸ h)⟩, fun a h => ?_, fun c o nc _ e => g.all _ _ nc e⟩
  · obtain ⟨ps, h1, h2, h3⟩ := g.inv.tab t ht
    refine ⟨ps, h1, h2, fun x hx => (h3 x hx).imp id fun ⟨c', e1, e2, e3⟩ => ⟨c', e1, ⟨e2, fun q => ?_⟩, e3⟩⟩
    subst q
    obtain ⟨c, o, vs, t, q1, q2, q3, _⟩ := e3
    cases q1
    obtain ⟨o', k, e, _, _, d, _⟩ := hl'
    rw [e] at q2; cases q2; rw [d] at q3; cases q3
  · rcases g.new a h.1 with (q | q) | q
    · exact .inl q
    · exact absurd q h.2
    · exact .inr q

theorem Ev.borrow {e : Expr} {p : VP} {x : Str} {l : List VP} (i : Nat) (hi : fr.names[i]? = some x) (hv : vals[i]? = some (.own l)) (hp : p.Scalar) (h : Ev C fr n (vals.set i (.val (vLst l))) e p) : Ev C fr n vals e p := fun hb env A S s F => by
  obtain ⟨b, its, hl, nS, st, F'⟩ := F.freeze hi hv
  exact wpAny_mono (h hb env A _ s F') (fun v s' ⟨S'', g, y⟩ => ⟨_, back_grow F.inv hl nS g, hp _ _ _ _ _ y⟩) fun _ _ z => z
theorem All2.scalar {S S' : ASet} {h h' : Heap} : ∀ {vs : List Value} {ps : List VP}, (∀ p ∈ ps, VP.Scalar p) → All2 S h vs ps → All2 S' h' vs ps
  | [], [], _, _ => trivial
  | _ :: _, p :: _, k, ⟨a, b⟩ => ⟨k p (.head _) _ _ _ _ _ a, b.scalar fun q hq => k q (.tail _ hq)⟩
  | [], _ :: _, _, x => x.elim
  | _ :: _, [], _, x => x.elim
theorem EvL.borrow {e : Expr} {l' : List VP} {x : Str} {l : List VP} (i : Nat) (hi : fr.names[i]? = some x) (hv : vals[i]? = some (.own l)) (hp : ∀ p ∈ l', p.Scalar) (h : EvL C fr n (vals.set i (.val (vLst l))) e l') : EvL C fr n vals e l' := fun hb env A S s F => by
  obtain ⟨b, its, hl, nS, st, F'⟩ := F.freeze hi hv
  refine wpAny_mono (h hb env A _ s F') (fun v s' pq => ?_) fun _ _ z => z
  obtain ⟨S'', g, a, vs, e1, e2, e3, e4, e5⟩ := pq
  exact ⟨_, back_grow F.inv hl nS g, a, vs, e1, e2, fun q => e3 q.1, e4, e5.scalar hp⟩

end
end Mine

set_option tactic.hygienic false
namespace Mine
open PySem PySem.W PyProof.Rows

section
variable {C : Cx} {fr : Shape} {n : Nat} {vals vals' : List Slot}


theorem Ex1.assign {x : Str} {pos' pos : Pos} {e : Expr} {p : VP} (i : Nat) (hi : fr.names[i]? = some x) (hnd : fr.names.Nodup) (hc : canStore fr x = true) (h : Ev C fr n vals e p)
    (hs : ∀ env, swapsWith e (some (.Name x pos')) pos.line env = pure false := by intro _; rfl) : Ex1 C fr n vals (.Assign [.Name x pos'] e pos) (.next (vals.set i (.val p))) := fun hb env A S s F =>
  wpAny_Assign_Name (Gives.seq (q := p) (h hb env A S s F) fun v S₁ s₁ g x => (F.grow g).store hi hnd hc x fun s' st F' _ => ⟨S₁, (F.stepGrow g).trans st, F'⟩) (hs env)

theorem Ex1.assignOwn {x : Str} {pos' pos : Pos} {e : Expr} {l : List VP} (i : Nat) (hi : fr.names[i]? = some x) (hnd : fr.names.Nodup) (hc : canStore fr x = true) (h : EvL C fr n vals e l)
    (hs : ∀ env, swapsWith e (some (.Name x pos')) pos.line env = pure false := by intro _; rfl) : Ex1 C fr n vals (.Assign [.Name x pos'] e pos) (.next (vals.set i (.own l))) := fun hb env A S s F =>
  wpAny_Assign_Name (wpAny_mono (h hb env A S s F) (fun v s₁ ⟨S₁, x⟩ => F.storeOwn hi hnd hc x fun s'' st F' _ => ⟨S₁, st, F'⟩) fun _ _ z => z) (hs env)

theorem Ex1.iff {t : Expr} {b1 b2 : List Stmt} {pos : Pos} {c : Bool} {o : Out} (h : EvB C fr n vals t c) (h1 : c = true → Ex C fr n vals b1 o) (h2 : c = false → Ex C fr n vals b2 o) : Ex1 C fr n vals (.If t b1 b2 pos) o := fun hb env A S s F =>
  wpAny_If (wpAny_mono (h hb env A S s F) (fun c' s₁ pq => by
    obtain ⟨e, S₁, g⟩ := pq
    subst e
    cases c' with
    | true => exact wpAny_mono (h1 rfl hb env A S₁ s₁ (F.grow g)) (fun _ _ ⟨S₂, st, y⟩ => ⟨S₂, (F.stepGrow g).trans st, y⟩) fun _ _ z => z
    | false => exact wpAny_mono (h2 rfl hb env A S₁ s₁ (F.grow g)) (fun _ _ ⟨S₂, st, y⟩ => ⟨S₂, (F.stepGrow g).trans st, y⟩) fun _ _ z => z) fun _ _ z => z)

theorem Ex1.ret {e : Expr} {pos : Pos} {p : VP} (h : Ev C fr n vals e p) : Ex1 C fr n vals (.Return (some e) pos) (.ret p) := fun hb env A S s F =>
  wpAny_Return_some (wpAny_mono (h hb env A S s F) (fun _ _ ⟨S₁, g, x⟩ => ⟨S₁, F.stepGrow g, x⟩) fun _ _ z => z)
theorem Ex1.brk {pos : Pos} : Ex1 C fr n vals (.Break pos) (.brk vals) := fun _ _ _ S _ F => wpAny_Break ⟨S, .refl F.inv, F⟩
theorem Ex1.append {x : Str} {e : Expr} {np apos cpos pos : Pos} {p : VP} {l : List VP} (i : Nat) (hi : fr.names[i]? = some x) (hv : vals[i]? = some (.own l)) (h : Ev C fr n vals e p) (hsz : l.length ≤ sizeLine)
    (hbase : ∀ env, attributeBase (.Name x np) "append" env (eval (.Name x np) env) = eval (.Name x np) env := by intro _; rfl) (hline : (apos.endLine == cpos.line) = true := by rfl)
    (htr : ∀ env, starEach [e] env = [(false, eval e env)] := by intro _; rfl)
    (hd : (x == ("__debug__" : Str)) = false := by decide) (hn : (x == ("__classdict__" : Str)) = false := by decide) :
    Ex1 C fr n vals (.Expr (.Call (.Attribute (.Name x np) "append" apos) [e] [] cpos) pos) (.next (vals.set i (.own (l ++ [p])))) := fun hb env A S s F => by
  refine wpAny_Expr_any ?_ (by unfold interactive; rw [F.kind]; rfl) rfl
  have tr : backTo cpos (starEach [e] env) = [(false, eval e env)] := by rw [htr]; rfl
  refine wpAny_Call_append (hbase env) (by rw [tr]; rfl) hline tr ?_
  obtain ⟨f, hsl⟩ := F.slots
  obtain ⟨hH, nS, nb, vs, hl, hx⟩ := hsl.own hi hv
  refine wpAny_Name (hH.load F.kind hn ⟨_, _, rfl, hl.plainL, ?_⟩) hd
  refine Gives.seq (q := p) (h hb env A S s F) fun v S₁ s₁ g x => ?_
  have hsl' := hsl.grow F.inv g
  obtain ⟨hH', nS', nb', vs', hl', hx'⟩ := hsl'.own hi hv
  refine list_append_PL hl' (fun h' hp hs => ?_) (by rw [List.size_toArray, hx'.length]; exact hsz)
  have q := (F.grow g).mutate (tk := s₁.toks) (vs' := vs' ++ [v]) (l' := l ++ [p]) hsl' hi hv hl' hs (by simpa using hp) (hx'.append ⟨x, trivial⟩)
  exact ⟨S₁, (F.stepGrow g).trans q.1, q.2⟩


theorem EvB.value {e : Expr} {p : VP} {b : Bool} (h : Ev C fr n vals e p) (ht : TruG C p b) (he : ∀ env whole, isTrue e env whole = (do let v ← whole; standAt e.pos; holding [v] (truthy v)) := by intro _ _; rfl) : EvB C fr n vals e b := fun hb env A S s F =>
  wpAny_isTrue_value (Gives.seq (q := p) (h hb env A S s F) fun v S₁ s₁ g x => wpAny_mono (ht A S₁ s₁ v g.inv (F.around.le (Nat.zero_le _)) x) (fun _ _ ⟨e, S₂, g₂⟩ => ⟨e, S₂, g.trans g₂⟩) fun _ _ z => z) (he _ _)

theorem Ev.ifexp {t e1 e2 : Expr} {pos : Pos} {c : Bool} {p : VP} (h : EvB C fr n vals t c) (h1 : c = true → Ev C fr n vals e1 p) (h2 : c = false → Ev C fr n vals e2 p) : Ev C fr n vals (.IfExp t e1 e2 pos) p := fun hb env A S s F =>
  wpAny_IfExp (wpAny_mono (h hb env A S s F) (fun c' s₁ pq => by
    obtain ⟨e, S₁, g⟩ := pq
    subst e
    cases c' with
    | true => exact wpAny_mono (h1 rfl hb env A S₁ s₁ (F.grow g)) (fun _ _ ⟨S₂, st, y⟩ => ⟨S₂, g.trans st, y⟩) fun _ _ z => z
    | false => exact wpAny_mono (h2 rfl hb env A S₁ s₁ (F.grow g)) (fun _ _ ⟨S₂, st, y⟩ => ⟨S₂, g.trans st, y⟩) fun _ _ z => z) fun _ _ z => z)


noncomputable def EvArgs (C : Cx) (fr : Shape) (n : Nat) (vals : List Slot) (es : List Expr) (ps : List VP) : Prop :=
  (∀ env, (starEach es env).any (·.1) = false ∧ (starEach es env).length = es.length) ∧
  ∀ hb env A S s pos, FrameOk C fr n hb env A S s vals → wpAny C.M A (spliced (backTo pos (starEach es env))) (fun vs s' => ∃ S', Grow C S s S' s' ∧ All2 S' s'.heap vs ps) F0 s
theorem EvArgs.nil : EvArgs C fr n vals [] [] := ⟨fun _ => ⟨rfl, rfl⟩, fun _ _ _ S _ _ F => wpAny_items_nil ⟨S, .refl F.inv, trivial⟩⟩
theorem EvArgs.cons {e : Expr} {rest : List Expr} {p : VP} {ps : List VP} (h1 : Ev C fr n vals e p) (h2 : EvArgs C fr n vals rest ps)
    (he : ∀ env, starEach (e :: rest) env = (false, eval e env) :: starEach rest env := by intro _; rfl) : EvArgs C fr n vals (e :: rest) (p :: ps) := by
  refine ⟨fun env => ⟨?_, ?_⟩, fun hb env A S s pos F => wpAny_items_cons (Gives.seq (q := p) (h1 hb env A S s F) fun v S₁ s₁ g x => ?_) (he env)⟩
  · rw [he]; exact (h2.1 env).1
  · rw [he, List.length_cons, (h2.1 env).2, List.length_cons]
  · exact wpAny_mono (h2.2 hb env A S₁ s₁ pos (F.grow g)) (fun vs s₂ ⟨S₂, g₂, y⟩ => ⟨S₂, g.trans g₂, p.mono g₂.sub (p.keep (g₂.keeps g.inv) x), y⟩) fun _ _ z => z

theorem Ev.tuple {es : List Expr} {k : Nat} {pos : Pos} {ps : List VP} (h : EvArgs C fr n vals es ps) (hsz : ps.length ≤ sizeLine := by first | decide | (simp only [List.length_cons, List.length_nil, sizeLine_eq]; omega)) : Ev C fr n vals (.Tuple es k pos) (vTup ps) := fun hb env A S s F =>
  wpAny_Tuple (wpAny_mono (h.2 hb env A S s pos F) (fun vs s₁ ⟨S₁, g, x⟩ => ⟨by rw [x.length]; exact hsz, _, g.trans (grow_push (tk := s₁.toks) g.inv rfl), pushed_tup g.inv x⟩) fun _ _ z => z)
theorem pushed_fresh {S : ASet} {s : Shared} {vs : List Value} {l : List VP} {m tk : Nat} (I : Inv C S s) (x : All2 S s.heap vs l) :
    Fresh C S s S { s with heap := s.heap.push { cls := .type "list", data := .seq vs.toArray m }, toks := tk } (.ref s.heap.objs.size) l :=
  ⟨grow_push' I, _, vs, rfl, size_none _, (fun q => by have := I.live _ q; rw [size_none] at this; cases this), ⟨_, _, Heap.get?_push_size _ rfl, rfl, rfl, rfl, rfl⟩, x.keep fun _ _ _ e => Heap.get?_push_of_some _ e⟩
theorem Fresh.before {S S₁ S' : ASet} {s s₁ s' : Shared} {v : Value} {l : List VP} (g : Grow C S s S₁ s₁) (x : Fresh C S₁ s₁ S' s' v l) : Fresh C S s S' s' v l :=
  ⟨g.trans x.grow, let ⟨a, vs, e1, e2, r⟩ := x.is; ⟨a, vs, e1, none_of_not (fun q => by have : (s₁.heap.get? a).isSome = true := g.alive q; rw [e2] at this; cases this), r⟩⟩
theorem EvL.list {es : List Expr} {pos : Pos} {ps : List VP} (h : EvArgs C fr n vals es ps) (hsz : ps.length ≤ sizeLine := by first | decide | (simp only [List.length_cons, List.length_nil, sizeLine_eq]; omega)) : EvL C fr n vals (.List es pos) ps := fun hb env A S s F =>
  wpAny_List (wpAny_mono (h.2 hb env A S s pos F) (fun vs s₁ ⟨S₁, g, x⟩ => ⟨by rw [x.length]; exact hsz, _, (pushed_fresh (tk := s₁.toks) g.inv x).before g⟩) fun _ _ z => z)


noncomputable def FnG (C : Cx) (n : Nat) (f : Value) (ps : List VP) (r : VP) : Prop :=
  ∀ A S s vs, Inv C S s → AOk n A → All2 S s.heap vs ps → Gives C A (call f vs) S s r
noncomputable def KeepOk (C : Cx) (f : Value) : Prop := ∀ h : Heap, (∀ b o, C.base.get? b = some o → h.get? b = some o) → ∃ k, (k = Keeper.frame ∨ k = Keeper.machine ∨ k = Keeper.boundFrame) ∧ Looks C.M h (keeperOf f) k
theorem KeepOk.builtin (id : String) : KeepOk C (.builtin id) := fun _ _ => ⟨.machine, .inr (.inl rfl), Looks.of_pure rfl⟩
theorem KeepOk.type (id : String) : KeepOk C (.type id) := fun _ _ => ⟨.machine, .inr (.inl rfl), Looks.of_pure rfl⟩
theorem KeepOk.fn {a : Addr} {o : Obj} {fd : FuncData} (e : C.base.get? a = some o) (hd : o.data = .func fd) : KeepOk C (.ref a) := fun h k =>
  ⟨.frame, .inl rfl, fun A Q E s k' q => by
    unfold keeperOf
    refine wpAny_bind (wpAny_load (k' _ _ (k _ _ e)) ?_)
    rw [hd]; exact wpAny_pure q⟩

theorem evalArgs_of {f : Value} {pos : Pos} {env : Env} {A : Around} {es : List Expr} {s : Shared} {Q : Args → Shared → Prop} (hns : (starEach es env).any (·.1) = false)
    (h : wpAny C.M A (spliced (backTo pos (starEach es env))) (fun vs s₁ => Q ⟨vs, []⟩ s₁) F0 s) : wpAny C.M A (evalArgs f true (backTo pos (starEach es env)) []) Q F0 s := by
  cases hq : starEach es env with
  | nil =>
    rw [hq] at h
    unfold evalArgs
    show wpAny C.M A (spliced [] >>= _) Q F0 s
    refine wpAny_bind (wpAny_mono h (fun vs s₁ h₁ => ?_) fun _ _ z => z)
    refine wpAny_bind (wpAny_pure ?_)
    refine wpAny_holding ?_
    exact wpAny_bind (wpAny_pure (wpAny_bind (wpAny_pure (wpAny_pure h₁))))
  | cons x r =>
    rw [hq] at h hns
    obtain ⟨b, t⟩ := x
    have hb : b = false := by cases b with | false => rfl | true => simp at hns
    subst hb
    exact Calls.evalArgs_plain h

theorem callWith_g {f : Value} {first : List Value} {pos : Pos} {hb : ASet} {env : Env} {A : Around} {S : ASet} {s : Shared} {es : List Expr} {ps : List VP} {Q : Value → Shared → Prop} (F : FrameOk C fr n hb env A S s vals) (hk : KeepOk C f) (ha : EvArgs C fr n vals es ps)
    (h : ∀ S₁ s₁ vs, Grow C S s S₁ s₁ → All2 S₁ s₁.heap vs ps → wpAny C.M A (call f (first ++ vs)) Q F0 s₁) : wpAny C.M A (callWith pos f first (backTo pos (starEach es env)) []) Q F0 s := by
  have hs := (ha.1 env).1
  have hs' : (backTo pos (starEach es env)).any (·.1) = false := by
    unfold backTo
    rw [List.any_map]
    exact hs
  refine callWith_of (P := fun h => ∀ b o, C.base.get? b = some o → h.get? b = some o) (by rw [hs']; rfl) (fun h k => hk h k) (evalArgs_of hs (wpAny_mono (ha.2 hb env A S s pos F) (fun vs s₁ ⟨S₁, g, x⟩ => ⟨fun b o e => (g.inv.base b o e).1, h S₁ s₁ vs g x⟩) fun _ _ z => z))


noncomputable def GlobIs (C : Cx) (x : Str) (v : Value) : Prop := ∃ mg, C.base.Ns mainGlobals mg ∧ (mg x = some v ∨ (mg x = none ∧ ∃ mb, C.base.Ns builtinsNs mb ∧ mb x = some v))

theorem Ev.glob {x : Str} {pos : Pos} {v : Value} (hg : GlobIs C x v) (hk : fr.scope.names.lookup x = some .globalImplicit) (hd : (x == ("__debug__" : Str)) = false := by decide) : Ev C fr n vals (.Name x pos) (vIs v) := fun hb env A S s F => by
  obtain ⟨mg, h1, h2⟩ := hg
  have k : ∀ b o, C.base.get? b = some o → s.heap.get? b = some o := fun b o e => (F.inv.base b o e).1
  have h1' : s.heap.Ns env.globals mg := by rw [F.globals]; exact h1.keeps k
  refine Calls.Name_function_global F.kind (by rw [kindOf_eq, F.scope]; exact hk) ?_ hd
  rcases h2 with h2 | ⟨h2, mb, h3, h4⟩
  · exact Calls.loadGlobal_global h1' h2 ⟨S, .refl F.inv, rfl⟩
  · exact Calls.loadGlobal_builtin h1' h2 (by rw [F.builtins]; exact h3.keeps k) h4 ⟨S, .refl F.inv, rfl⟩

theorem Ev.call {x : Str} {np pos : Pos} {es : List Expr} {f : Value} {ps : List VP} {r : VP} (hf : Ev C fr n vals (.Name x np) (vIs f)) (hk : KeepOk C f) (ha : EvArgs C fr n vals es ps) (hc : FnG C n f ps r) : Ev C fr n vals (.Call (.Name x np) es [] pos) r := fun hb env A S s F =>
  wpAny_Call_NameR (Gives.seq (q := r) (hf hb env A S s F) fun v S₁ s₁ g e => by
    cases (show v = f from e)
    exact callWith_g (F.grow g) hk ha fun S₂ s₂ vs g₂ y => wpAny_mono (hc A S₂ s₂ vs g₂.inv F.around y) (fun _ _ ⟨S₃, g₃, z⟩ => ⟨S₃, (g.trans g₂).trans g₃, z⟩) fun _ _ z => z)

end
end Mine

set_option tactic.hygienic false
namespace Mine
open PySem PySem.W PyProof.Rows

theorem cellsFrom_some : ∀ (names : List (Str × NameKind)) (k : Nat) (acc : List (Str × Addr)) (x : Str), (names.any (fun p => p.1 == x && p.2 == .cell) = true ∨ (acc.lookup x).isSome = true) → ((cellsFrom k names acc).lookup x).isSome = true
  | [], k, acc, x, h => by
    rcases h with h | h
    · simp at h
    · exact h
  | (y, kd) :: r, k, acc, x, h => by
    unfold cellsFrom
    split
    · rename_i hk
      refine cellsFrom_some r (k + 1) _ x ?_
      rcases h with h | h
      · rw [List.any_cons] at h
        rcases Bool.or_eq_true_iff.mp h with h | h
        · have := (Bool.and_eq_true_iff.mp h).1
          right
          rw [List.lookup_cons]
          have e : y = x := eq_of_beq this
          subst e
          simp
        · exact .inl h
      · right
        rw [List.lookup_cons]
        split
        · rfl
        · exact h
    · rename_i hk
      refine cellsFrom_some r k _ x ?_
      rcases h with h | h
      · rw [List.any_cons] at h
        rcases Bool.or_eq_true_iff.mp h with h | h
        · have := (Bool.and_eq_true_iff.mp h).2
          exact absurd this hk
        · exact .inl h
      · exact .inr h

section
variable {kindOf : Str → Option NameKind}
theorem bindL_out : ∀ (xs : List Str) (vs : List Value) (m : Str → Option Value) (x : Str), x ∉ xs → bindL kindOf (xs.zip vs) m x = m x
  | [], _, _, _, _ => by simp [bindL]
  | _ :: _, [], _, _, _ => by simp [bindL]
  | y :: r, v :: vs, m, x, h => by
    rw [List.zip_cons_cons, bindL, bindL_out r vs _ x (fun q => h (.tail _ q))]
    have : x ≠ y := fun q => h (q ▸ .head _)
    split
    · simp [this]
    · rfl
theorem bindC_out : ∀ (xs : List Str) (vs : List Value) (m : Str → Option Value) (x : Str), x ∉ xs → bindC kindOf (xs.zip vs) m x = m x
  | [], _, _, _, _ => by simp [bindC]
  | _ :: _, [], _, _, _ => by simp [bindC]
  | y :: r, v :: vs, m, x, h => by
    rw [List.zip_cons_cons, bindC, bindC_out r vs _ x (fun q => h (.tail _ q))]
    have : x ≠ y := fun q => h (q ▸ .head _)
    split
    · rfl
    · simp [this]
theorem bindL_in : ∀ (xs : List Str) (vs : List Value) (m : Str → Option Value), xs.Nodup → ∀ (i : Nat) (x : Str) (v : Value), xs[i]? = some x → vs[i]? = some v → kindOf x = some .local → bindL kindOf (xs.zip vs) m x = some v
  | [], _, _, _, i, _, _, e, _, _ => by simp at e
  | _ :: _, [], _, _, i, _, _, _, e, _ => by simp at e
  | y :: r, u :: vs, m, hn, i, x, v, e1, e2, hk => by
    rw [List.zip_cons_cons, bindL]
    obtain ⟨h1, h2⟩ := List.nodup_cons.mp hn
    cases i with
    | zero =>
      simp at e1 e2; subst e1 e2
      rw [bindL_out r vs _ y h1, if_pos hk]; simp
    | succ i => simp at e1 e2; exact bindL_in r vs _ h2 i x v e1 e2 hk
theorem bindC_in : ∀ (xs : List Str) (vs : List Value) (m : Str → Option Value), xs.Nodup → ∀ (i : Nat) (x : Str) (v : Value), xs[i]? = some x → vs[i]? = some v → kindOf x ≠ some .local → bindC kindOf (xs.zip vs) m x = some v
  | [], _, _, _, i, _, _, e, _, _ => by simp at e
  | _ :: _, [], _, _, i, _, _, _, e, _ => by simp at e
  | y :: r, u :: vs, m, hn, i, x, v, e1, e2, hk => by
    rw [List.zip_cons_cons, bindC]
    obtain ⟨h1, h2⟩ := List.nodup_cons.mp hn
    cases i with
    | zero =>
      simp at e1 e2; subst e1 e2
      rw [bindC_out r vs _ y h1, if_neg hk]; simp
    | succ i => simp at e1 e2; exact bindC_in r vs _ h2 i x v e1 e2 hk
end


noncomputable def startVals (ps : List VP) (k : Nat) : List Slot := ps.map .val ++ List.replicate k .un

theorem startVals_get {ps : List VP} {k i : Nat} {t : Slot} (h : (startVals ps k)[i]? = some t) : (∃ p, ps[i]? = some p ∧ t = .val p) ∨ t = .un := by
  unfold startVals at h
  rw [List.getElem?_append] at h
  split at h
  · rw [List.getElem?_map] at h
    cases e : ps[i]? with
    | none => rw [e] at h; cases h
    | some p => rw [e] at h; exact .inl ⟨p, rfl, (Option.some.inj h).symm⟩
  · exact .inr (List.eq_of_mem_replicate (List.mem_of_getElem? h))


structure DefOk (C : Cx) (a : Addr) (fd : FuncData) (body : List Stmt) (xs : List Str) (fr : Shape) : Prop where
  at_ : ∃ o, C.base.get? a = some o ∧ o.data = .func fd
  lim : C.base.NoLimit
  code : C.base.CodeRec fd.code fd.qualname
  body : fd.body = .stmts body
  clo : fd.closure = []
  globals : fd.globals = mainGlobals
  builtins : fd.builtins = builtinsNs
  kind : fd.scope.kind = .function
  co : fd.scope.isCoroutine = false
  gen : fd.scope.isGenerator = false
  bind : ∀ vs : List Value, vs.length = xs.length → bindArgs fd ⟨vs, []⟩ = pure (xs.zip vs)
  shape : fr.scope = fd.scope
  names : fr.names.take xs.length = xs
  nodup : fr.names.Nodup
  params : ∀ x ∈ xs, fd.scope.names.lookup x = some .local ∨ (fd.scope.names.lookup x = some .cell ∧ fd.scope.names.any (fun p => p.1 == x && p.2 == .cell) = true)
  cells : ∀ x ∈ fr.cells, fd.scope.names.any (fun p => p.1 == x && p.2 == .cell) = true


inductive Ends : Out → VP → Prop where
  | ret (p : VP) : Ends (.ret p) p
  | next (v : List Slot) : Ends (.next v) vNone

section
variable {C : Cx} {n : Nat}

theorem code_topAt {a : Addr} {fd : FuncData} {body : List Stmt} {xs : List Str} {fr : Shape} {ps : List VP} (D : DefOk C a fd body xs fr) (hl : ps.length = xs.length) {A : Around} {S : ASet} {s : Shared} {vs : List Value} {R : Result → Shared → Prop}
    (I : Inv C S s) (hA : AOk (n + 1) A) (hx : All2 S s.heap vs ps)
    (h : ∀ env A s₁, env.code = fd.code → env.qual = fd.qualname ++ ".<locals>." → (∃ L, env.cells = cellsFrom L fd.scope.names []) → Grow C S s S s₁ → FrameOk C fr n (liveIn s.heap) env A S s₁ (startVals ps (fr.names.length - xs.length)) →
      wpAny C.M A (execs body env) (fun f s' => R (.ok (.ret (match f with | .ret v => v | _ => .none))) s') F0 s₁) : codeAny C.M A (.call (.ref a) ⟨vs, []⟩) R s := by
  obtain ⟨ob, ho, hd⟩ := D.at_
  have kb : ∀ b o, C.base.get? b = some o → s.heap.get? b = some o := fun b o e => (I.base b o e).1
  have hlen : vs.length = xs.length := hx.length.trans hl
  have hxs : xs.Nodup := by rw [← D.names]; exact D.nodup.sublist (List.take_sublist _ _)
  refine codeAny_call_cells (by have := hA.depth; lia) (kb _ _ ho) hd (D.lim.keeps kb) (D.code.keeps kb) D.body (D.bind vs hlen) D.clo (fun y hy => ?_) (fun s₁ x => ?_) D.co D.gen D.kind
  · have hy' : y.1 ∈ xs := (List.of_mem_zip (a := y.1) (b := y.2) hy).1
    exact (D.params y.1 hy').imp id fun q => ⟨q.1, cellsFrom_some _ _ _ _ (.inl q.2)⟩
  · obtain ⟨⟨⟨h', tk, rfl⟩, hns, hkeep, hfresh⟩, hcell, hap, habove⟩ := x
    have hfr0 : ∀ b, s.heap.objs.size ≤ b → s.heap.get? b = none := fun b hb => none_of_not fun q => by
      cases e : s.heap.get? b with
      | none => rw [e] at q; cases q
      | some o => exact absurd (Heap.lt_size e) (Nat.not_lt.mpr hb)
    have nS : ∀ b, s.heap.objs.size ≤ b → ¬ S b := fun b hb q => by have := I.live b q; rw [hfr0 b hb] at this; cases this
    have g : Grow C S s S { s with heap := h', toks := tk } := grow_of_kept I hkeep (fun _ h => h) fun _ h => .inl h
    have F : FrameOk C fr n (liveIn s.heap) (callEnvC fd s.heap.objs.size a) (A.deeper (callEnvC fd s.heap.objs.size a)) S { s with heap := h', toks := tk } (startVals ps (fr.names.length - xs.length)) := by
      refine ⟨g.inv, D.shape.symm, D.kind, D.globals, D.builtins, hA.deeper _, fun _ h => g.alive h, ⟨_, hns⟩, ⟨nS _ hfresh, not_live (hfr0 _ hfresh)⟩, fun y c q => ⟨_, hcell y c q⟩, fun y _ z c q q' => name_of_addr hap (mem_of_lookup q') (mem_of_lookup q), fun y hy => ?_, fun _ => 0, ?_, fun i y t hy ht => ?_, fun i j l l' hi _ _ => ?_⟩
      · obtain ⟨c, hc⟩ := Option.isSome_iff_exists.mp (cellsFrom_some fd.scope.names (s.heap.objs.size + 1) [] y (.inl (D.cells y hy)))
        have hc' : (callEnvC fd s.heap.objs.size a).cells.lookup y = some c := hc
        have hlt := habove y c (mem_of_lookup hc')
        exact ⟨c, hc', not_live (hfr0 _ (Nat.le_trans hfresh (Nat.le_of_lt hlt))), nS _ (Nat.le_trans hfresh (Nat.le_of_lt hlt))⟩
      · have : xs.length ≤ fr.names.length := by
          have := congrArg List.length D.names
          rw [List.length_take] at this; lia
        simp only [startVals, List.length_append, List.length_map, List.length_replicate]
        lia
      · rcases startVals_get ht with ⟨p, hp, rfl⟩ | rfl
        · obtain ⟨v, hv, hpv⟩ := hx.get hp
          have hi : i < xs.length := by rw [← hl]; exact (List.getElem?_eq_some_iff.mp hp).1
          have hy' : xs[i]? = some y := by rw [← D.names, List.getElem?_take_of_lt hi]; exact hy
          refine ⟨v, ?_, p.keep (fun b o _ e => hkeep b o e) hpv⟩
          rcases D.params y (List.mem_of_getElem? hy') with q | ⟨q, q'⟩
          · exact .inl ⟨q, _, hns, bindL_in xs vs _ hxs i y v hy' hv q⟩
          · obtain ⟨c, hc⟩ := Option.isSome_iff_exists.mp (cellsFrom_some fd.scope.names (s.heap.objs.size + 1) [] y (.inl q'))
            have hc' : (callEnvC fd s.heap.objs.size a).cells.lookup y = some c := hc
            refine .inr ⟨.inl q, c, hc', ?_⟩
            have z := hcell y c hc'
            rw [bindC_in xs vs _ hxs i y v hy' hv (by show fd.scope.names.lookup y ≠ _; rw [q]; decide)] at z
            exact z
        · trivial
      · rcases startVals_get hi with ⟨p, _, q⟩ | q <;> cases q
    exact wpAny_mono (h _ _ _ rfl rfl ⟨_, rfl⟩ g F) (fun _ _ y => y) fun _ _ z => z.elim

theorem FnG.topAt {a : Addr} {fd : FuncData} {body : List Stmt} {xs : List Str} {fr : Shape} {ps : List VP} {r : VP} (D : DefOk C a fd body xs fr) (hl : ps.length = xs.length)
    (h : ∀ hb env A S s, env.code = fd.code → env.qual = fd.qualname ++ ".<locals>." → (∃ L, env.cells = cellsFrom L fd.scope.names []) → FrameOk C fr n hb env A S s (startVals ps (fr.names.length - xs.length)) →
      wpAny C.M A (execs body env) (fun f s' => ∃ S', Step C hb S s S' s' ∧ r.P S' s'.heap (match f with | .ret v => v | _ => .none)) F0 s) : FnG C (n + 1) (.ref a) ps r := fun A S s vs I hA hx =>
  wpAny_call (code_topAt D hl I hA hx fun env A' s₁ h1 h2 h3 g F => wpAny_mono (h _ env A' S s₁ h1 h2 h3 F) (fun f s' ⟨S', st, y⟩ => ⟨S', Step.trans g st, y⟩) fun _ _ z => z)

theorem FnG.top {a : Addr} {fd : FuncData} {body : List Stmt} {xs : List Str} {fr : Shape} {ps : List VP} {o : Out} {r : VP} (D : DefOk C a fd body xs fr) (hl : ps.length = xs.length)
    (h : Ex C fr n (startVals ps (fr.names.length - xs.length)) body o) (he : Ends o r) : FnG C (n + 1) (.ref a) ps r :=
  FnG.topAt D hl fun hb env A S s _ _ _ F => wpAny_mono (h hb env A S s F) (fun f s' pq => by
    obtain ⟨S', st, y⟩ := pq
    cases he with
    | ret p => cases f <;> first | exact y.elim | exact ⟨S', st, y⟩
    | next v => cases f <;> first | exact y.elim | exact ⟨S', st, rfl⟩) fun _ _ z => z

end
end Mine

set_option tactic.hygienic true
namespace Mine
open PySem PySem.W PyProof.Rows


noncomputable def Foreign (h : Heap) (a : Addr) : Prop := ∃ o, h.get? a = some o ∧ o.cls ≠ .type "list" ∧ (∀ es n, o.data ≠ .dict es n) ∧ (∀ v, o.data ≠ .cell v) ∧ o.cls ≠ .none

section
variable {C : Cx} {fr : Shape} {n : Nat} {vals vals' : List Slot}

theorem Foreign.ne_ns {h : Heap} {a b : Addr} {m} (x : Foreign h a) (y : h.Ns b m) : a ≠ b := by
  rintro rfl
  obtain ⟨o, e, _, h2, _⟩ := x
  obtain ⟨o', es, ep, e', d, _⟩ := y
  rw [e] at e'; cases e'; exact h2 _ _ d
theorem Foreign.ne_cell {h : Heap} {a b : Addr} {m} (x : Foreign h a) (y : h.IsCell b m) : a ≠ b := by
  rintro rfl
  obtain ⟨o, e, _, _, h2, _⟩ := x
  obtain ⟨o', e', d⟩ := y
  rw [e] at e'; cases e'; exact h2 _ d
theorem Foreign.ne_list {h : Heap} {a b : Addr} {m} (x : Foreign h a) (y : PL h b m) : a ≠ b := by
  rintro rfl
  obtain ⟨o, e, h2, _⟩ := x
  obtain ⟨o', k, e', d, _⟩ := y
  rw [e] at e'; cases e'; exact h2 d
theorem Foreign.notab {S : ASet} {s : Shared} {a : Addr} (I : Inv C S s) (x : Foreign s.heap a) : ¬ C.isTab a := by
  rintro ⟨t, ht, rfl⟩
  obtain ⟨ps, h1, _⟩ := I.tab t ht
  obtain ⟨o, e, _, _, _, h2⟩ := x
  rw [h1] at e; cases e; exact h2 rfl
theorem Foreign.live {h : Heap} {a : Addr} (x : Foreign h a) : liveIn h a := by obtain ⟨o, e, _⟩ := x; exact live_of e

noncomputable abbrev plus (hb : ASet) (wr : List Addr) : ASet := fun a => hb a ∨ a ∈ wr


theorem FrameOk.protect {hb env A S s} {wr : List Addr} (F : FrameOk C fr n hb env A S s vals) (hf : ∀ a ∈ wr, Foreign s.heap a) : FrameOk C fr n (plus hb wr) env A S s vals where
  inv := F.inv
  scope := F.scope
  kind := F.kind
  globals := F.globals
  builtins := F.builtins
  around := F.around
  alive := fun b h => h.elim (F.alive b) fun q => (hf b q).live
  ns := F.ns
  locNot := ⟨F.locNot.1, fun h => h.elim F.locNot.2 fun q => let ⟨_, hm⟩ := F.ns; (hf _ q).ne_ns hm rfl⟩
  cells := F.cells
  apart := F.apart
  ownc := fun x hx => let ⟨c, e1, e2, e3⟩ := F.ownc x hx; ⟨c, e1, fun h => h.elim e2 fun q => let ⟨_, z⟩ := F.cells x c e1; (hf _ q).ne_cell z rfl, e3⟩
  slots := by
    obtain ⟨f, hl, hs, hd⟩ := F.slots
    refine ⟨f, hl, fun i x t hi ht => ?_, hd⟩
    have q := hs i x t hi ht
    cases t with
    | un => trivial
    | val p => exact q
    | own l => obtain ⟨a, b, c, vs, d, e⟩ := q; exact ⟨a, b, fun h => h.elim c fun q => (hf _ q).ne_list d rfl, vs, d, e⟩

theorem FrameOk.unprotect {hb env A S s} {wr : List Addr} (F : FrameOk C fr n (plus hb wr) env A S s vals) : FrameOk C fr n hb env A S s vals where
  inv := F.inv
  scope := F.scope
  kind := F.kind
  globals := F.globals
  builtins := F.builtins
  around := F.around
  alive := fun b h => F.alive b (.inl h)
  ns := F.ns
  locNot := ⟨F.locNot.1, fun h => F.locNot.2 (.inl h)⟩
  cells := F.cells
  apart := F.apart
  ownc := fun x hx => let ⟨c, e1, e2, e3⟩ := F.ownc x hx; ⟨c, e1, fun h => e2 (.inl h), e3⟩
  slots := by
    obtain ⟨f, hl, hs, hd⟩ := F.slots
    refine ⟨f, hl, fun i x t hi ht => ?_, hd⟩
    have q := hs i x t hi ht
    cases t with
    | un => trivial
    | val p => exact q
    | own l => obtain ⟨a, b, c, vs, d, e⟩ := q; exact ⟨a, b, fun h => c (.inl h), vs, d, e⟩


noncomputable abbrev Moves (C : Cx) (wr : List Addr) (S : ASet) (s : Shared) (S' : ASet) (s' : Shared) : Prop := Step C (fun b => liveIn s.heap b ∧ b ∉ wr) S s S' s'

theorem Moves.all {wr : List Addr} {S S' : ASet} {s s' : Shared} (x : Moves C wr S s S' s') : ∀ b o, b ∉ wr → ¬ C.isTab b → s.heap.get? b = some o → s'.heap.get? b = some o :=
  fun b o hb nt e => x.kept b o nt (.inl ⟨live_of e, hb⟩) e
theorem FrameOk.movesW {hb env A S s S' s'} {wr : List Addr} (F : FrameOk C fr n (plus hb wr) env A S s vals) (hf : ∀ a ∈ wr, Foreign s.heap a) (m : Moves C wr S s S' s') (nb : ∀ a ∈ wr, ¬ hb a) : FrameOk C fr n hb env A S' s' vals where
  inv := m.inv
  scope := F.scope
  kind := F.kind
  globals := F.globals
  builtins := F.builtins
  around := F.around
  alive := fun b h => m.alive (.inl ⟨F.alive b (.inl h), fun q => nb b q h⟩) (F.alive b (.inl h))
  ns := by
    obtain ⟨k, x⟩ := F.ns
    have nt := F.inv.notab_ns x
    have nw : env.locals ∉ wr := fun q => (hf _ q).ne_ns x rfl
    obtain ⟨o, es, ep, e1, r⟩ := x
    exact ⟨k, o, es, ep, m.all _ _ nw nt e1, r⟩
  locNot := ⟨fun q => (m.new _ q).elim F.locNot.1 (fun e => by
    obtain ⟨k, x⟩ := F.ns
    have nw : env.locals ∉ wr := fun q => (hf _ q).ne_ns x rfl
    obtain ⟨o, es, ep, e1, r⟩ := x
    exact e ⟨live_of e1, nw⟩), fun h => F.locNot.2 (.inl h)⟩
  cells := fun x c hc => by
    obtain ⟨v, y⟩ := F.cells x c hc
    have nt := F.inv.notab_cell y
    have nw : c ∉ wr := fun q => (hf _ q).ne_cell y rfl
    obtain ⟨o, e1, r⟩ := y
    exact ⟨v, o, m.all _ _ nw nt e1, r⟩
  apart := F.apart
  ownc := fun x hx => by
    obtain ⟨c, e1, e2, e3⟩ := F.ownc x hx
    obtain ⟨v, y⟩ := F.cells x c e1
    have nw : c ∉ wr := fun q => (hf _ q).ne_cell y rfl
    obtain ⟨o, e, _⟩ := y
    exact ⟨c, e1, fun h => e2 (.inl h), fun q => (m.new _ q).elim e3 fun e' => e' ⟨live_of e, nw⟩⟩
  slots := by
    obtain ⟨f, hsl⟩ := F.unprotect.slots
    refine ⟨f, hsl.move (fun y v x => ?_) m.sub (fun a o ha e => m.kept a o (F.inv.notab a ha) (.inr ha) e) fun a items nSa _ x => ?_⟩
    · rcases x with ⟨a, k, z, e⟩ | ⟨a, c, b, d⟩
      · have nt := F.inv.notab_ns z
        have nw : env.locals ∉ wr := fun q => (hf _ q).ne_ns z rfl
        obtain ⟨o, es, ep, e1, r⟩ := z
        exact .inl ⟨a, k, ⟨o, es, ep, m.all _ _ nw nt e1, r⟩, e⟩
      · have nt := F.inv.notab_cell d
        have nw : c ∉ wr := fun q => (hf _ q).ne_cell d rfl
        obtain ⟨o, e1, r⟩ := d
        exact .inr ⟨a, c, b, ⟨o, m.all _ _ nw nt e1, r⟩⟩
    · have nt := F.inv.notab_list x
      have nw : a ∉ wr := fun q => (hf _ q).ne_list x rfl
      obtain ⟨o, k, e1, r⟩ := x
      exact ⟨⟨o, k, m.all _ _ nw nt e1, r⟩, fun q => (m.new _ q).elim nSa fun e => e ⟨live_of e1, nw⟩⟩

theorem FrameOk.moves {hb env A S s S' s'} {wr : List Addr} (F : FrameOk C fr n (plus hb wr) env A S s vals) (hf : ∀ a ∈ wr, Foreign s.heap a) (m : Moves C wr S s S' s') (nb : ∀ a ∈ wr, ¬ hb a) (hf' : ∀ a ∈ wr, Foreign s'.heap a) : FrameOk C fr n (plus hb wr) env A S' s' vals :=
  (F.movesW hf m nb).protect hf'


inductive ItOk (S : ASet) (h : Heap) (I : Addr) : List Addr → List VP → Prop where
  | list {a : Addr} {i : Nat} {vs : List Value} {l : List VP} : S a → h.IsListIter I a i → PL h a (List.toArray vs) → All2 S h (vs.drop i) l → ItOk S h I [I] l
  | range {x left step : Int} : IsRangeIter h I x left step → ItOk S h I [I] ((List.range left.toNat).map fun (k : Nat) => vInt (x + (k : Int) * step))
  | strA {x : Str} {t : Tok} {i : Nat} : h.IsStrIter I "str_ascii_iterator" x t i → ItOk S h I [I] ((x.cps.toList.drop i).map fun c => vStr ⟨#[c]⟩)
  | strW {x : Str} {t : Tok} {i : Nat} : h.IsStrIter I "str_iterator" x t i → ItOk S h I [I] ((x.cps.toList.drop i).map fun c => vStr ⟨#[c]⟩)
  | zip {TI TO : Addr} {q : List ZI} {k : Nat} {rows : List (List VP)} : q ≠ [] → q.length ≤ sizeLine → S TI → ZipAt h I TI TO q k .none → (∀ r ∈ rows, r.length = q.length) →
      (∀ (j : Nat) (p : ZI), q[j]? = some p → S p.l ∧ PL h p.l (List.toArray p.vs) ∧ All2 S h (p.vs.drop k) (rows.map fun r => r.getD j vNone)) → ItOk S h I (I :: TO :: q.map (·.i)) (rows.map vTup)

theorem ItOk.keep {S S' : ASet} {h h' : Heap} {I : Addr} {wr : List Addr} {l : List VP} (x : ItOk S h I wr l) (hS : ∀ a, S a → S' a) (hk : ∀ a o, S a → h.get? a = some o → h'.get? a = some o) (hw : ∀ a ∈ wr, ∀ o, h.get? a = some o → h'.get? a = some o) : ItOk S' h' I wr l := by
  cases x with
  | list a b c d =>
    refine .list (hS _ a) ?_ ?_ ((d.keep hk).mono hS)
    · obtain ⟨o, e, r⟩ := b; exact ⟨o, hw _ (.head _) _ e, r⟩
    · obtain ⟨o, k, e, r⟩ := c; exact ⟨o, k, hk _ _ a e, r⟩
  | range a => exact .range (hw _ (.head _) _ a)
  | strA a => obtain ⟨o, e, r⟩ := a; exact .strA ⟨o, hw _ (.head _) _ e, r⟩
  | strW a => obtain ⟨o, e, r⟩ := a; exact .strW ⟨o, hw _ (.head _) _ e, r⟩
  | zip n1 n2 a Z c d =>
    rename_i TI TO q k rows
    obtain ⟨kept, k1, k2⟩ := Z.hTO
    refine .zip (k := k) n1 n2 (hS _ a) ⟨hw _ (.head _) _ Z.hz, hk _ _ a Z.hTI, ⟨kept, k1, hw _ (.tail _ (.head _)) _ k2⟩, fun p hp => ?_, fun p hp => ?_, Z.nd, Z.ne⟩ c fun j p hp => ?_
    · obtain ⟨o, e, r⟩ := Z.its p hp; exact ⟨o, hw _ (.tail _ (.tail _ (List.mem_map_of_mem hp))) _ e, r⟩
    · obtain ⟨o, e, r⟩ := Z.ls p hp
      obtain ⟨j, hj⟩ := List.mem_iff_getElem?.mp hp
      exact ⟨o, hk _ _ (d j p hj).1 e, r⟩
    · obtain ⟨d1, ⟨o, m, e, r⟩, d3⟩ := d j p hp
      exact ⟨hS _ d1, ⟨o, m, hk _ _ d1 e, r⟩, (d3.keep hk).mono hS⟩

theorem foreign_fields {h : Heap} {a : Addr} {o : Obj} {vs : Array Value} (e : h.get? a = some o) (hd : o.data = .fields vs) (h1 : o.cls ≠ .type "list") (h2 : o.cls ≠ .none) : Foreign h a :=
  ⟨o, e, h1, (fun _ _ q => by rw [hd] at q; cases q), (fun _ q => by rw [hd] at q; cases q), h2⟩
theorem ItOk.foreign {S : ASet} {h : Heap} {I : Addr} {wr : List Addr} {l : List VP} (x : ItOk S h I wr l) : ∀ a ∈ wr, Foreign h a := by
  cases x with
  | list a b c d =>
    obtain ⟨o, e, hc, hd⟩ := b
    intro b hb; cases List.mem_singleton.mp hb
    exact foreign_fields e hd (by rw [hc]; decide) (by rw [hc]; decide)
  | range a => intro b hb; cases List.mem_singleton.mp hb; exact foreign_fields a rfl (by simp) (by simp)
  | strA a =>
    obtain ⟨o, e, hc, hd⟩ := a
    intro b hb; cases List.mem_singleton.mp hb
    exact foreign_fields e hd (by rw [hc]; decide) (by rw [hc]; decide)
  | strW a =>
    obtain ⟨o, e, hc, hd⟩ := a
    intro b hb; cases List.mem_singleton.mp hb
    exact foreign_fields e hd (by rw [hc]; decide) (by rw [hc]; decide)
  | zip n1 n2 a Z c d =>
    intro b hb
    rcases List.mem_cons.mp hb with rfl | hb
    · exact foreign_fields Z.hz rfl (show Value.type "zip" ≠ _ by decide) (show Value.type "zip" ≠ _ by decide)
    · rcases List.mem_cons.mp hb with rfl | hb
      · obtain ⟨kept, _, e⟩ := Z.hTO
        exact ⟨_, e, (show Value.type "tuple" ≠ _ by decide), (fun _ _ q => by cases q), (fun _ q => by cases q), (show Value.type "tuple" ≠ _ by decide)⟩
      · obtain ⟨p, hp, rfl⟩ := List.mem_map.mp hb
        obtain ⟨o, e, hc, hd⟩ := Z.its p hp
        exact foreign_fields e hd (by rw [hc]; decide) (by rw [hc]; decide)


theorem moves_many {S S' : ASet} {s : Shared} {h' : Heap} {wr : List Addr} {tk : Nat} (V : Inv C S s) (hf : ∀ a ∈ wr, Foreign s.heap a) (nS : ∀ a ∈ wr, ¬ S a) (he : ∀ c o, c ∉ wr → s.heap.get? c = some o → h'.get? c = some o)
    (hS : ∀ a, S a → S' a) (hn : ∀ a, S' a → S a ∨ (s.heap.get? a = none ∧ liveIn h' a)) : Moves C wr S s S' { s with heap := h', toks := tk } := by
  have nw : ∀ a, S a → a ∉ wr := fun a ha q => nS a q ha
  refine ⟨⟨fun b o e => ⟨he b o (nw b (V.base b o e).2) (V.base b o e).1, hS _ (V.base b o e).2⟩, fun a ha => ?_, fun t ht => (V.tab t ht).move (fun o e => he _ _ (fun q => (hf _ q).notab V ⟨t, ht, rfl⟩) e) hS fun a o ha e => he a o (nw a ha) e, fun a ha => ?_, V.gens, V.os⟩,
    hS, fun a ha => (hn a ha).imp id fun q h => not_live q.1 h.1, fun b o nb h e => ?_⟩
  · rcases hn a ha with q | q
    · obtain ⟨o, e⟩ := live_get (V.live a q); exact live_of (he a o (nw a q) e)
    · exact q.2
  · rcases hn a ha with q | q
    · exact V.notab a q
    · rintro ⟨t, ht, rfl⟩
      obtain ⟨ps, h1, _⟩ := V.tab t ht
      rw [q.1] at h1; cases h1
  · exact he b o (fun q => h.elim (fun h => h.2 q) (nS b q)) e

theorem moves_one {S : ASet} {s : Shared} {h' : Heap} {I : Addr} {tk : Nat} (V : Inv C S s) (hf : Foreign s.heap I) (nS : ¬ S I) (he : Heap.ExtBut I s.heap h') : Moves C [I] S s S { s with heap := h', toks := tk } :=
  moves_many V (fun a ha => List.mem_singleton.mp ha ▸ hf) (fun a ha => List.mem_singleton.mp ha ▸ nS) (fun c o hc e => he c o (fun q => hc (q ▸ .head _)) e) (fun _ h => h) fun _ h => .inl h


noncomputable def plainTarget : Expr → Bool
  | .Name .. => true
  | .Tuple .. => true
  | _ => false
noncomputable def isTup : Expr → Bool
  | .Tuple .. => true
  | _ => false
noncomputable abbrev TgtOk (tgt : Expr) (wr : List Addr) : Prop := wr.length = 1 ∨ isTup tgt = true
theorem letgo_val {A : Around} {tgt : Expr} {it v : Value} {s : Shared} {Q : Unit → Shared → Prop} (hv : ∀ a, v ≠ .ref a) (h : Q () s) : wpAny C.M A (letOwnedTupleGo tgt it v) Q F0 s := by
  have e : letOwnedTupleGo tgt it v = pure () := by
    cases tgt <;> first | rfl | (cases it <;> first | rfl | (cases v <;> first | rfl | exact absurd rfl (hv _)))
  rw [e]
  exact wpAny_pure h

theorem letgo_list {A : Around} {tgt : Expr} {I l : Addr} {i : Nat} {v : Value} {s : Shared} {Q : Unit → Shared → Prop} (ht : plainTarget tgt = true) (hit : s.heap.IsListIter I l i) (h : Q () s) : wpAny C.M A (letOwnedTupleGo tgt (.ref I) v) Q F0 s := by
  by_cases hv : ∃ a, v = .ref a
  · obtain ⟨a, rfl⟩ := hv
    have e : letOwnedTupleGo tgt (.ref I) (.ref a) = pure () ∨ ∃ es k p, tgt = .Tuple es k p := by
      cases tgt <;> first | exact .inl rfl | exact .inr ⟨_, _, _, rfl⟩ | cases ht
    rcases e with e | ⟨es, k, p, rfl⟩
    · rw [e]; exact wpAny_pure h
    · exact wpAny_letOwnedTupleGo_listiter hit h
  · exact letgo_val (fun a q => hv ⟨a, q⟩) h

theorem ItOk.end_ {A : Around} {S : ASet} {s : Shared} {I : Addr} {wr : List Addr} {ps : List VP} (V : Inv C S s) (hA : A.handled = none) (x : ItOk S s.heap I wr ps) (nS : ∀ a ∈ wr, ¬ S a) (hp : ps = []) :
    wpAny C.M A (pyNext (.ref I)) (fun r s' => r = none ∧ Moves C wr S s S s') F0 s := by
  have hf := x.foreign
  cases x with
  | list a b c d =>
    subst hp
    refine wpAny_pyNext_list_end hA b c.isList ?_ fun h' he => ⟨rfl, moves_one V (hf _ (.head _)) (nS _ (.head _)) he⟩
    have := d.length
    simp at this
    simp; lia
  | range a =>
    refine wpAny_pyNext_range_end hA a ?_ fun h' he => ⟨rfl, moves_one V (hf _ (.head _)) (nS _ (.head _)) he⟩
    simp at hp; lia
  | strA a =>
    refine wpAny_pyNext_ascii_end hA a ?_ fun h' he => ⟨rfl, moves_one V (hf _ (.head _)) (nS _ (.head _)) he⟩
    simp at hp
    simp [hp]
  | strW a =>
    refine wpAny_pyNext_wide_end hA a ?_ fun h' he => ⟨rfl, moves_one V (hf _ (.head _)) (nS _ (.head _)) he⟩
    simp at hp
    simp [hp]
  | zip n1 n2 a Z c d =>
    rename_i TI TO q k rows
    have hr : rows = [] := List.map_eq_nil_iff.mp hp
    subst hr
    cases q with
    | nil => exact absurd rfl n1
    | cons p q =>
      have d0 := (d 0 p rfl).2.2.length
      rw [List.map_nil, List.length_nil, List.length_drop] at d0
      exact pyNext_zip_endL hA Z (Nat.sub_eq_zero_iff_le.mp d0) fun h' he => ⟨rfl, moves_many V hf nS (fun c o hc e => he c o (fun q => hc (q ▸ .head _)) (fun q => hc (q ▸ .tail _ (.head _))) (fun r hr q => hc (q ▸ .tail _ (.tail _ (List.mem_map_of_mem hr)))) e) (fun _ h => h) fun _ h => .inl h⟩

theorem ItOk.item {A : Around} {S : ASet} {s : Shared} {I : Addr} {wr : List Addr} {ps l : List VP} {p : VP} {tgt : Expr} (V : Inv C S s) (ht : plainTarget tgt = true) (tg : TgtOk tgt wr) (x : ItOk S s.heap I wr ps) (nS : ∀ a ∈ wr, ¬ S a) (hp : ps = p :: l) :
    wpAny C.M A (pyNext (.ref I)) (fun r s₁ => ∃ v, r = some v ∧ wpAny C.M A (letOwnedTupleGo tgt (.ref I) v) (fun _ s₂ => ∃ S', Moves C wr S s S' s₂ ∧ (∀ a ∈ wr, ¬ S' a) ∧ p.P S' s₂.heap v ∧ ItOk S' s₂.heap I wr l) F0 s₁) F0 s := by
  have hf := x.foreign
  cases x with
  | list a b c d =>
    rename_i ad i vs
    subst hp
    cases hq : vs.drop i with
    | nil => rw [hq] at d; exact d.elim
    | cons v r =>
      rw [hq] at d
      have hv : vs[i]? = some v := by
        have := List.getElem?_drop (xs := vs) (i := i) (j := 0)
        rw [hq] at this
        simpa using this.symm
      have hr : vs.drop (i + 1) = r := by rw [← List.drop_drop, hq]; rfl
      refine wpAny_pyNext_list_item b c.isList (by simpa using hv) fun h' hi hs => ⟨v, rfl, letgo_list ht hi ?_⟩
      have m := moves_one (tk := s.toks) V (hf _ (.head _)) (nS _ (.head _)) hs.extBut
      have nad : ad ≠ I := fun q => nS I (.head _) (q ▸ a)
      refine ⟨S, m, nS, p.keep (fun b o hb e => (hs.2 b (fun q => nS I (.head _) (q ▸ hb))).trans e) d.1, .list a hi (list_sameBut c hs nad) ?_⟩
      rw [hr]
      exact d.2.keep fun b o hb e => (hs.2 b (fun q => nS I (.head _) (q ▸ hb))).trans e
  | range a =>
    rename_i x left step
    have hl : 0 < left := by
      apply Decidable.byContradiction
      intro q
      have : left.toNat = 0 := by lia
      rw [this] at hp; cases hp
    refine wpAny_pyNext_range_item a hl fun h' hi hs => ⟨_, rfl, letgo_val (fun _ q => by cases q) ?_⟩
    obtain ⟨k, hk⟩ : ∃ k, left.toNat = k + 1 := ⟨left.toNat - 1, by lia⟩
    rw [hk, List.range_succ_eq_map, List.map_cons] at hp
    injection hp with hp1 hp2
    refine ⟨S, moves_one V (hf _ (.head _)) (nS _ (.head _)) hs.extBut, nS, ?_, ?_⟩
    · rw [← hp1]; exact ⟨s.toks, by simp⟩
    · have : l = (List.range (left - 1).toNat).map fun (k : Nat) => vInt (x + step + (k : Int) * step) := by
        rw [← hp2, List.map_map]
        have e : (left - 1).toNat = k := by lia
        rw [e]
        apply List.map_congr_left
        intro j _
        show vInt (x + ((j.succ : Nat) : Int) * step) = vInt (x + step + (j : Int) * step)
        congr 1
        rw [Int.natCast_succ, Int.add_mul]; lia
      rw [this]
      exact .range hi
  | strA a =>
    rename_i x t i
    cases hq : x.cps.toList.drop i with
    | nil => rw [hq] at hp; cases hp
    | cons c r =>
      rw [hq, List.map_cons] at hp
      injection hp with hp1 hp2
      have hv : x.cps[i]? = some c := by
        have := List.getElem?_drop (xs := x.cps.toList) (i := i) (j := 0)
        rw [hq] at this
        simpa using this.symm
      have hr : x.cps.toList.drop (i + 1) = r := by rw [← List.drop_drop, hq]; rfl
      refine wpAny_pyNext_ascii_item a hv fun h' hi hs => ⟨_, rfl, letgo_val (fun _ q => by cases q) ?_⟩
      refine ⟨S, moves_one V (hf _ (.head _)) (nS _ (.head _)) hs.extBut, nS, ?_, ?_⟩
      · rw [← hp1]; exact ⟨_, rfl⟩
      · rw [← hp2, ← hr]; exact .strA hi
  | strW a =>
    rename_i x t i
    cases hq : x.cps.toList.drop i with
    | nil => rw [hq] at hp; cases hp
    | cons c r =>
      rw [hq, List.map_cons] at hp
      injection hp with hp1 hp2
      have hv : x.cps[i]? = some c := by
        have := List.getElem?_drop (xs := x.cps.toList) (i := i) (j := 0)
        rw [hq] at this
        simpa using this.symm
      have hr : x.cps.toList.drop (i + 1) = r := by rw [← List.drop_drop, hq]; rfl
      refine wpAny_pyNext_wide_item a hv fun h' hi hs => ⟨_, rfl, letgo_val (fun _ q => by cases q) ?_⟩
      refine ⟨S, moves_one V (hf _ (.head _)) (nS _ (.head _)) hs.extBut, nS, ?_, ?_⟩
      · rw [← hp1]; exact ⟨_, rfl⟩
      · rw [← hp2, ← hr]; exact .strW hi
  | zip n1 n2 a Z c d =>
    rename_i TI TO q k rows
    cases rows with
    | nil => cases hp
    | cons r rest =>
      rw [List.map_cons] at hp
      injection hp with hp1 hp2
      subst hp1 hp2
      have hit : ∀ (j : Nat) (p : ZI), q[j]? = some p → ∃ x, p.vs[k]? = some x ∧ (r.getD j vNone).P S s.heap x ∧ All2 S s.heap (p.vs.drop (k + 1)) (rest.map fun r => r.getD j vNone) := fun j p hp => by
        obtain ⟨_, _, d3⟩ := d j p hp
        rw [List.map_cons] at d3
        cases hq : p.vs.drop k with
        | nil => rw [hq] at d3; exact d3.elim
        | cons x xs =>
          rw [hq] at d3
          refine ⟨x, ?_, d3.1, ?_⟩
          · have := List.getElem?_drop (xs := p.vs) (i := k) (j := 0)
            rw [hq] at this
            exact this.symm
          · rw [← List.drop_drop, hq]; exact d3.2
      refine pyNext_zipL Z n1 (fun p hp => ?_) (fun h' xs Z' hl hxs hT kp => ⟨_, rfl, ?_⟩) n2
      · obtain ⟨j, hj⟩ := List.mem_iff_getElem?.mp hp
        obtain ⟨x, hx, _⟩ := hit j p hj
        exact (List.getElem?_eq_some_iff.mp hx).1
      · have tgt_is : ∃ es x1 pos, tgt = .Tuple es x1 pos := by
          rcases tg with h | h
          · simp at h
          · cases tgt <;> first | exact ⟨_, _, _, rfl⟩ | cases h
        obtain ⟨es, x1, pos, rfl⟩ := tgt_is
        have wn : ∀ {c}, S c → c ∉ I :: TO :: q.map (·.i) := fun h q => nS _ q h
        have kp2 : ∀ c o, c ∉ I :: TO :: q.map (·.i) → s.heap.get? c = some o → h'.get? c = some o := fun c o hc e => kp c o (fun q => hc (q ▸ .head _)) (fun q => hc (q ▸ .tail _ (.head _))) (fun r hr q => hc (q ▸ .tail _ (.tail _ (List.mem_map_of_mem hr)))) e
        refine letgo_zipL (s := { s with heap := h' }) Z' fun h'' Z'' hs => ?_
        have kp3 : ∀ c o, c ∉ I :: TO :: q.map (·.i) → s.heap.get? c = some o → h''.get? c = some o := fun c o hc e => (hs.2 c fun q => hc (q ▸ .head _)).trans (kp2 c o hc e)
        have hT3 : IsTupL h'' s.heap.objs.size xs := (hs.2 _ (cls_ne hT Z'.hz rfl rfl (by decide))).trans hT
        have kS : ∀ c o, S c → s.heap.get? c = some o → h''.get? c = some o := fun c o hc e => kp3 c o (wn hc) e
        have m : Moves C (I :: TO :: q.map (·.i)) S s (fun b => S b ∨ b = s.heap.objs.size) { s with heap := h'' } :=
          moves_many (tk := s.toks) V hf nS kp3 (fun _ h => .inl h) fun b h => h.imp id fun e => by rw [show b = s.heap.objs.size from e]; exact ⟨size_none _, live_of hT3⟩
        have nN : ∀ b ∈ I :: TO :: q.map (·.i), ¬ (S b ∨ b = s.heap.objs.size) := fun b hb q => q.elim (nS b hb) fun e => not_live (size_none s.heap) (e ▸ (hf b hb).live)
        refine ⟨_, m, nN, ⟨_, xs, rfl, .inr rfl, ⟨_, hT3, rfl, _, rfl⟩, ?_⟩, .zip n1 n2 (.inl a) Z'' (fun r hr => c r (.tail _ hr)) fun j p hp => ?_⟩
        · refine All2.mono (fun _ h => Or.inl h) (All2.keep kS (All2.of_get (by rw [hl, c r (.head _)]) fun j v p hv hp => ?_))
          have hj : j < q.length := by rw [← hl]; exact (List.getElem?_eq_some_iff.mp hv).1
          obtain ⟨x, hx, hpx, _⟩ := hit j _ (List.getElem?_eq_getElem hj)
          have e1 := hxs j _ (List.getElem?_eq_getElem hj)
          rw [hv, hx] at e1
          cases e1
          rwa [List.getD_eq_getElem?_getD, hp] at hpx
        · obtain ⟨d1, ⟨o, m', e, r'⟩, _⟩ := d j p hp
          obtain ⟨x, _, _, d4⟩ := hit j p hp
          exact ⟨.inl d1, ⟨o, m', kS _ _ d1 e, r'⟩, (d4.keep kS).mono fun _ h => .inl h⟩


noncomputable def IterG (C : Cx) (p : VP) (items : List VP) : Prop :=
  ∀ A S s v, Inv C S s → AOk 0 A → p.P S s.heap v → wpAny C.M A (pyIter v) (fun it s' => ∃ I wr S', it = .ref I ∧ Grow C S s S' s' ∧ ItOk S' s'.heap I wr items ∧ (∀ a ∈ wr, ¬ S' a ∧ ¬ liveIn s.heap a) ∧ wr.length = 1) F0 s

theorem not_size {S : ASet} {s : Shared} (V : Inv C S s) : ¬ S s.heap.objs.size := fun q => not_live (size_none _) (V.live _ q)

theorem IterG.list {l : List VP} : IterG C (vLst l) l := fun A S s v V _ hp => by
  obtain ⟨a, vs, rfl, ha, hl, hx⟩ := hp
  refine wpAny_pyIter_list hl.isList ⟨_, [s.heap.objs.size], S, rfl, grow_push' (tk := s.toks) V, .list (i := 0) ha ⟨_, Heap.get?_push_size _ rfl, rfl, rfl⟩ (hl.keeps fun _ _ e => Heap.get?_push_of_some _ e) ?_, fun b hb => ?_, rfl⟩
  · exact hx.keep fun _ _ _ e => Heap.get?_push_of_some _ e
  · cases List.mem_singleton.mp hb
    exact ⟨not_size V, not_live (size_none _)⟩
theorem IterG.str {x : Str} : IterG C (vStr x) (x.cps.toList.map fun c => vStr ⟨#[c]⟩) := fun A S s v V _ hp => by
  obtain ⟨t, rfl⟩ := hp
  have nn : ∀ b ∈ [s.heap.objs.size], ¬ S b ∧ ¬ liveIn s.heap b := fun b hb => by
    cases List.mem_singleton.mp hb
    exact ⟨not_size V, not_live (size_none _)⟩
  cases ha : x.cps.all (· < 128) with
  | true => exact wpAny_pyIter_ascii ha ⟨_, [s.heap.objs.size], S, rfl, grow_push' (tk := s.toks) V, .strA (i := 0) ⟨_, Heap.get?_push_size _ rfl, rfl, rfl⟩, nn, rfl⟩
  | false => exact wpAny_pyIter_wide ha ⟨_, [s.heap.objs.size], S, rfl, grow_push' (tk := s.toks) V, .strW (i := 0) ⟨_, Heap.get?_push_size _ rfl, rfl, rfl⟩, nn, rfl⟩


noncomputable def Asg (C : Cx) (fr : Shape) (n : Nat) (vals : List Slot) (tgt : Expr) (p : VP) (vals' : List Slot) : Prop :=
  plainTarget tgt = true ∧ ∀ hb env A S s v, FrameOk C fr n hb env A S s vals → p.P S s.heap v → wpAny C.M A (assign tgt env v) (fun _ s' => ∃ S', Step C hb S s S' s' ∧ FrameOk C fr n hb env A S' s' vals') F0 s

theorem Asg.name {x : Str} {pos : Pos} {p : VP} (i : Nat) (hi : fr.names[i]? = some x) (hnd : fr.names.Nodup) (hc : canStore fr x = true) : Asg C fr n vals (.Name x pos) p (vals.set i (.val p)) :=
  ⟨rfl, fun hb env A S s v F hp => wpAny_assign_Name (F.store hi hnd hc hp fun s' st F' _ => ⟨S, st, F'⟩)⟩


inductive Names (fr : Shape) : List Slot → List Expr → List VP → List Slot → Prop where
  | nil {vals : List Slot} : Names fr vals [] [] vals
  | cons {vals vals' : List Slot} {x : Str} {pos : Pos} {es : List Expr} {p : VP} {ps : List VP} (i : Nat) (hi : fr.names[i]? = some x) (hc : canStore fr x = true) (h : Names fr (vals.set i (.val p)) es ps vals') : Names fr vals (.Name x pos :: es) (p :: ps) vals'

theorem Names.run {es : List Expr} {ps : List VP} (h : Names fr vals es ps vals') (hnd : fr.names.Nodup) : (∀ env, (assignEach es env).length = es.length ∧ (assignEach es env).findIdx? (·.1) = none) ∧ es.length = ps.length ∧
    ∀ hb env A S s vs, FrameOk C fr n hb env A S s vals → All2 S s.heap vs ps → wpAny C.M A (assignInOrder ((assignEach es env).map (·.2)) vs) (fun _ s' => ∃ S', Step C hb S s S' s' ∧ FrameOk C fr n hb env A S' s' vals') F0 s := by
  induction h with
  | nil =>
    refine ⟨fun _ => ⟨rfl, rfl⟩, rfl, fun hb env A S s vs F hx => ?_⟩
    cases vs with
    | nil => exact wpAny_assignInOrder_none ⟨S, .refl F.inv, F⟩
    | cons => exact hx.elim
  | cons i hi hc h ih =>
    rename_i x pos es p ps
    obtain ⟨i1, i2, i3⟩ := ih
    have e : ∀ env, assignEach (Expr.Name x pos :: es) env = (false, assign (Expr.Name x pos) env) :: assignEach es env := fun _ => rfl
    refine ⟨fun env => ⟨by rw [e, List.length_cons, (i1 env).1, List.length_cons], by rw [e, List.findIdx?_cons]; simp [(i1 env).2]⟩, by simp [i2], fun hb env A S s vs F hx => ?_⟩
    cases vs with
    | nil => exact hx.elim
    | cons v vs =>
      rw [e, List.map_cons]
      refine wpAny_assignInOrder_more (wpAny_assign_Name (F.store hi hnd hc hx.1 fun s' st F' _ => ?_))
      exact wpAny_mono (i3 hb env A S s' vs F' (hx.2.keep (st.keeps F.inv))) (fun _ _ ⟨S₂, st₂, F₂⟩ => ⟨S₂, st.trans st₂, F₂⟩) fun _ _ z => z

theorem Asg.tuple {es : List Expr} {k : Nat} {pos : Pos} {ps : List VP} (h : Names fr vals es ps vals') (hnd : fr.names.Nodup) : Asg C fr n vals (.Tuple es k pos) (vTup ps) vals' := by
  refine ⟨rfl, fun hb env A S s v F hp => ?_⟩
  obtain ⟨a, vs, rfl, ha, ht, hx⟩ := hp
  obtain ⟨h1, h2, h3⟩ := h.run (C := C) (n := n) hnd
  refine wpAny_assign_Tuple F.around.handled ht (by rw [(h1 env).1, h2, List.size_toArray, hx.length]) (h1 env).2 fun h' he => ?_
  have g : Grow C S s S { s with heap := h' } := grow_of_kept (tk := s.toks) F.inv (fun b o e => he b o (Nat.ne_of_lt (Heap.lt_size e)) e) (fun _ h => h) fun _ h => .inl h
  exact wpAny_mono (h3 hb env A S _ vs (F.grow g) (hx.keep (g.keeps F.inv))) (fun _ _ ⟨S₂, st₂, F₂⟩ => ⟨S₂, (F.stepGrow g).trans st₂, F₂⟩) fun _ _ z => z


inductive Turns (C : Cx) (fr : Shape) (n : Nat) (tgt : Expr) (body : List Stmt) : List Slot → List VP → Out → Prop where
  | nil {vals : List Slot} : Turns C fr n tgt body vals [] (.next vals)
  | next {vals v1 v2 : List Slot} {p : VP} {rest : List VP} {o : Out} (h1 : Asg C fr n vals tgt p v1) (h2 : Ex C fr n v1 body (.next v2)) (h3 : Turns C fr n tgt body v2 rest o) : Turns C fr n tgt body vals (p :: rest) o
  | cont {vals v1 v2 : List Slot} {p : VP} {rest : List VP} {o : Out} (h1 : Asg C fr n vals tgt p v1) (h2 : Ex C fr n v1 body (.cont v2)) (h3 : Turns C fr n tgt body v2 rest o) : Turns C fr n tgt body vals (p :: rest) o
  | brk {vals v1 v2 : List Slot} {p : VP} {rest : List VP} (h1 : Asg C fr n vals tgt p v1) (h2 : Ex C fr n v1 body (.brk v2)) : Turns C fr n tgt body vals (p :: rest) (.next v2)
  | ret {vals v1 : List Slot} {p q : VP} {rest : List VP} (h1 : Asg C fr n vals tgt p v1) (h2 : Ex C fr n v1 body (.ret q)) : Turns C fr n tgt body vals (p :: rest) (.ret q)

theorem Turns.step {tgt : Expr} {body : List Stmt} {p : VP} {rest : List VP} {o : Out} (h : Turns C fr n tgt body vals (p :: rest) o) :
    ∃ v1 o1, Asg C fr n vals tgt p v1 ∧ Ex C fr n v1 body o1 ∧ ((∃ v2, (o1 = .next v2 ∨ o1 = .cont v2) ∧ Turns C fr n tgt body v2 rest o) ∨ (∃ v2, o1 = .brk v2 ∧ o = .next v2) ∨ (∃ q, o1 = .ret q ∧ o = .ret q)) := by
  cases h with
  | next h1 h2 h3 => exact ⟨_, _, h1, h2, .inl ⟨_, .inl rfl, h3⟩⟩
  | cont h1 h2 h3 => exact ⟨_, _, h1, h2, .inl ⟨_, .inr rfl, h3⟩⟩
  | brk h1 h2 => exact ⟨_, _, h1, h2, .inr (.inl ⟨_, rfl, rfl⟩)⟩
  | ret h1 h2 => exact ⟨_, _, h1, h2, .inr (.inr ⟨_, rfl, rfl⟩)⟩


noncomputable def fErr (C : Cx) (A : Around) (env : Env) (R : Result → Shared → Prop) : Value → Shared → Prop := notedBy C.M A env fun e s' => R (.error e) s'
noncomputable def fFlow (R : Result → Shared → Prop) (I : Nat → Shared → Prop) (k : Nat) : Flow → Shared → Prop
  | .next, s => ∃ m, m < k ∧ I m s
  | .cont, s => ∃ m, m < k ∧ I m s
  | .brk, s => R (.ok .next) s
  | .ret v, s => R (.ok (.ret v)) s
noncomputable def fBody (C : Cx) (A : Around) (body : List Stmt) (env : Env) (R : Result → Shared → Prop) (I : Nat → Shared → Prop) (k : Nat) (s : Shared) : Prop := wpAny C.M A (execs body env) (fFlow R I k) (fErr C A env R) s
noncomputable def fAsg (C : Cx) (A : Around) (tgt : Expr) (body : List Stmt) (env : Env) (R : Result → Shared → Prop) (I : Nat → Shared → Prop) (k : Nat) (v : Value) (s : Shared) : Prop := wpAny C.M A (PySem.assign tgt env v) (fun _ => fBody C A body env R I k) (fErr C A env R) s
noncomputable def fNext (C : Cx) (A : Around) (tgt : Expr) (it : Value) (body : List Stmt) (env : Env) (R : Result → Shared → Prop) (I : Nat → Shared → Prop) (k : Nat) : Option Value → Shared → Prop
  | none, s => wpAny C.M A (execs [] env) (fun f s₃ => R (.ok f) s₃) (fErr C A env R) s
  | some v, s => wpAny C.M A (letOwnedTupleGo tgt it v) (fun _ => fAsg C A tgt body env R I k v) (fErr C A env R) s
theorem forLoop_named {A : Around} {R : Result → Shared → Prop} {s : Shared} {tgt : Expr} {it : Value} {body : List Stmt} {env : Env} (I : Nat → Shared → Prop) (turn : ∀ k s, I k s → wpAny C.M A (pyNext it) (fNext C A tgt it body env R I k) (fErr C A env R) s) (k : Nat) (h : I k s) :
    codeAny C.M A (.forLoop tgt it body [] env) R s := by
  refine codeAny_forLoop_any I (fun k s hI => wpAny_mono (turn k s hI) (fun r s₁ h₁ => ?_) fun _ _ z => z) k h
  cases r with
  | none => exact h₁
  | some v => exact wpAny_mono h₁ (fun _ s₂ h₂ => wpAny_mono h₂ (fun _ s₃ h₃ => wpAny_mono h₃ (fun f s₄ h₄ => by cases f <;> exact h₄) fun _ _ z => z) fun _ _ z => z) fun _ _ z => z


noncomputable def LPost (C : Cx) (fr : Shape) (n : Nat) (hb : ASet) (env : Env) (A : Around) (S : ASet) (s : Shared) (o : Out) : Result → Shared → Prop
  | .ok f, s' => ∃ S', Step C hb S s S' s' ∧ OutOk C fr n hb env A S' s' o f
  | .error _, _ => False
structure LMid (C : Cx) (fr : Shape) (n : Nat) (tgt : Expr) (body : List Stmt) (hb : ASet) (env : Env) (A : Around) (I : Addr) (wr : List Addr) (S : ASet) (s : Shared) (o : Out) (S' : ASet) (s' : Shared) (vals' : List Slot) (items' : List VP) : Prop where
  st : Step C hb S s S' s'
  F : FrameOk C fr n (plus hb wr) env A S' s' vals'
  hi : ItOk S' s'.heap I wr items'
  nS : ∀ a ∈ wr, ¬ S' a
  ht : Turns C fr n tgt body vals' items' o
  tg : TgtOk tgt wr
noncomputable def LInv (C : Cx) (fr : Shape) (n : Nat) (tgt : Expr) (body : List Stmt) (hb : ASet) (env : Env) (A : Around) (I : Addr) (wr : List Addr) (S : ASet) (s : Shared) (o : Out) (k : Nat) (s' : Shared) : Prop :=
  ∃ S' vals' items', k = items'.length ∧ LMid C fr n tgt body hb env A I wr S s o S' s' vals' items'

theorem LMid.end_ {tgt : Expr} {body : List Stmt} {o : Out} {hb : ASet} {env : Env} {A : Around} {S S' : ASet} {s s' : Shared} {I : Addr} {wr : List Addr} {vals' : List Slot} {J : Nat → Shared → Prop} {k : Nat}
    (M : LMid C fr n tgt body hb env A I wr S s o S' s' vals' []) (nb : ∀ a ∈ wr, ¬ hb a) : wpAny C.M A (pyNext (.ref I)) (fNext C A tgt (.ref I) body env (LPost C fr n hb env A S s o) J k) (fErr C A env (LPost C fr n hb env A S s o)) s' := by
  refine wpAny_mono (M.hi.end_ M.F.inv M.F.around.handled M.nS rfl) (fun r s₁ h => ?_) fun _ _ z => z.elim
  have e := h.1
  have m := h.2
  subst e
  cases M.ht
  exact wpAny_execs_nil ⟨S', M.st.trans (m.weaken fun b h => ⟨M.F.alive b (.inl h), fun q => nb b q h⟩), M.F.movesW M.hi.foreign m nb⟩
theorem LMid.turn {tgt : Expr} {body : List Stmt} {o : Out} {hb : ASet} {env : Env} {A : Around} {S S' : ASet} {s s' : Shared} {I : Addr} {wr : List Addr} {vals' : List Slot} {p : VP} {rest : List VP}
    (M : LMid C fr n tgt body hb env A I wr S s o S' s' vals' (p :: rest)) (nb : ∀ a ∈ wr, ¬ hb a) :
    wpAny C.M A (pyNext (.ref I)) (fNext C A tgt (.ref I) body env (LPost C fr n hb env A S s o) (LInv C fr n tgt body hb env A I wr S s o) (rest.length + 1)) (fErr C A env (LPost C fr n hb env A S s o)) s' := by
  obtain ⟨v1, o1, h1, h2, h3⟩ := M.ht.step
  refine wpAny_mono (M.hi.item (tgt := tgt) M.F.inv h1.1 M.tg M.nS rfl) (fun r s₁ pq => ?_) fun _ _ z => z.elim
  obtain ⟨v, e, w⟩ := pq
  subst e
  refine wpAny_mono w (fun _ s₂ pq => ?_) fun _ _ z => z.elim
  obtain ⟨S₂, m, nS₂, hp, hi₂⟩ := pq
  have F₂ := M.F.moves M.hi.foreign m nb hi₂.foreign
  refine wpAny_mono (h1.2 _ env A S₂ s₂ v F₂ hp) (fun _ s₃ pq => ?_) fun _ _ z => z.elim
  obtain ⟨S₃, st₃, F₃⟩ := pq
  refine wpAny_mono (h2 _ env A S₃ s₃ F₃) (fun f s₄ pq => ?_) fun _ _ z => z.elim
  obtain ⟨S₄, st₄, y⟩ := pq
  have st24 := st₃.trans st₄
  have stAll : Step C hb S s S₄ s₄ := (M.st.trans (m.weaken fun b h => ⟨M.F.alive b (.inl h), fun q => nb b q h⟩)).trans (st24.weaken fun _ h => .inl h)
  rcases h3 with ⟨v2, h3, ht'⟩ | ⟨v2, rfl, rfl⟩ | ⟨q, rfl, rfl⟩
  · have go : FrameOk C fr n (plus hb wr) env A S₄ s₄ v2 → ∃ m, m < rest.length + 1 ∧ LInv C fr n tgt body hb env A I wr S s o m s₄ := fun y =>
      ⟨rest.length, Nat.lt_succ_self _, S₄, v2, rest, rfl, ⟨stAll, y, hi₂.keep st24.sub (st24.keeps m.inv) fun a ha o e => st24.kept a o ((hi₂.foreign a ha).notab m.inv) (.inl (.inr ha)) e, fun a ha q => (st24.new a q).elim (nS₂ a ha) fun e => e (.inr ha), ht', M.tg⟩⟩
    rcases h3 with rfl | rfl <;> (cases f <;> first | exact y.elim | exact go y)
  · cases f <;> first | exact y.elim | exact ⟨S₄, stAll, y.unprotect⟩
  · cases f <;> first | exact y.elim | exact ⟨S₄, stAll, y⟩

theorem Turns.loop {tgt : Expr} {body : List Stmt} {items : List VP} {o : Out} {hb : ASet} {env : Env} {A : Around} {S : ASet} {s : Shared} {I : Addr} {wr : List Addr} (h : Turns C fr n tgt body vals items o) (F : FrameOk C fr n (plus hb wr) env A S s vals)
    (hi : ItOk S s.heap I wr items) (nS : ∀ a ∈ wr, ¬ S a) (nb : ∀ a ∈ wr, ¬ hb a) (tg : TgtOk tgt wr) : codeAny C.M A (.forLoop tgt (.ref I) body [] env) (LPost C fr n hb env A S s o) s := by
  refine forLoop_named (LInv C fr n tgt body hb env A I wr S s o) (fun k s' => ?_) items.length ⟨S, vals, items, rfl, ⟨.refl F.inv, F, hi, nS, h, tg⟩⟩
  rintro ⟨S', vals', items', rfl, M⟩
  cases items' with
  | nil => exact M.end_ nb
  | cons p rest => exact M.turn nb

end
end Mine

set_option tactic.hygienic false
namespace Mine
open PySem PySem.W PyProof.Rows

section
variable {C : Cx} {fr : Shape} {n : Nat} {vals vals' : List Slot}


noncomputable def EvIt (C : Cx) (fr : Shape) (n : Nat) (vals : List Slot) (tgt iter : Expr) (items : List VP) : Prop :=
  ∀ hb env A S s, FrameOk C fr n hb env A S s vals → wpAny C.M A (eval iter env) (fun v s₁ => wpAny C.M A (pyIter v) (fun it s' => ∃ I wr S', it = .ref I ∧ Grow C S s S' s' ∧ ItOk S' s'.heap I wr items ∧ (∀ a ∈ wr, ¬ S' a ∧ ¬ liveIn s.heap a) ∧ TgtOk tgt wr) F0 s₁) F0 s
theorem EvIt.of {tgt iter : Expr} {p : VP} {items : List VP} (hit : Ev C fr n vals iter p) (hI : IterG C p items) : EvIt C fr n vals tgt iter items := fun hb env A S s F =>
  Gives.seq (q := p) (hit hb env A S s F) fun v S₁ s₁ g x => wpAny_mono (hI A S₁ s₁ v g.inv (F.around.le (Nat.zero_le _)) x) (fun it s₂ pq => by
    obtain ⟨I, wr, S₂, e, g₂, hi, nn, w1⟩ := pq
    exact ⟨I, wr, S₂, e, g.trans g₂, hi, fun a ha => ⟨(nn a ha).1, fun q => (nn a ha).2 (g.alive q)⟩, .inl w1⟩) fun _ _ z => z

theorem Ex1.forIt {tgt iter : Expr} {body : List Stmt} {pos : Pos} {items : List VP} {o : Out} (hI : EvIt C fr n vals tgt iter items) (ht : Turns C fr n tgt body vals items o)
    (hs : ∀ env x, foldedSetIterable iter env x = pure x := by intro _ _; rfl) : Ex1 C fr n vals (.For tgt iter body [] pos) o := fun hb env A S s F =>
  wpAny_For (wpAny_mono (hI hb env A S s F) (fun v s₁ w => wpAny_mono w (fun it s₂ pq => by
      obtain ⟨I, wr, S₂, e, g, hi, nn, tg⟩ := pq
      subst e
      have F₂ := F.grow g
      have nb : ∀ a ∈ wr, ¬ hb a := fun a ha q => (nn a ha).2 (F.alive a q)
      refine codeAny_mono (ht.loop (F₂.protect hi.foreign) hi (fun a ha => (nn a ha).1) nb tg) fun r s' y => ?_
      cases r with
      | error e => exact y.elim
      | ok f =>
        obtain ⟨S', st, y⟩ := y
        exact ⟨S', (F.stepGrow g).trans st, y⟩) fun _ _ z => z.elim) fun _ _ z => z.elim) (hs env)
theorem Ex1.for_ {tgt iter : Expr} {body : List Stmt} {pos : Pos} {p : VP} {items : List VP} {o : Out} (hit : Ev C fr n vals iter p) (hI : IterG C p items) (ht : Turns C fr n tgt body vals items o)
    (hs : ∀ env x, foldedSetIterable iter env x = pure x := by intro _ _; rfl) : Ex1 C fr n vals (.For tgt iter body [] pos) o := Ex1.forIt (.of hit hI) ht hs


inductive Wh (C : Cx) (fr : Shape) (n : Nat) (test : Expr) (body : List Stmt) : Nat → List Slot → Out → Prop where
  | stop {vals : List Slot} {k : Nat} (h : EvB C fr n vals test false) : Wh C fr n test body k vals (.next vals)
  | next {vals v2 : List Slot} {o : Out} {k : Nat} (h : EvB C fr n vals test true) (h2 : Ex C fr n vals body (.next v2)) (h3 : Wh C fr n test body k v2 o) : Wh C fr n test body (k + 1) vals o
  | brk {vals v2 : List Slot} {k : Nat} (h : EvB C fr n vals test true) (h2 : Ex C fr n vals body (.brk v2)) : Wh C fr n test body k vals (.next v2)
  | ret {vals : List Slot} {k : Nat} {q : VP} (h : EvB C fr n vals test true) (h2 : Ex C fr n vals body (.ret q)) : Wh C fr n test body k vals (.ret q)


noncomputable def wInv (C : Cx) (fr : Shape) (n : Nat) (test : Expr) (body : List Stmt) (hb : ASet) (env : Env) (A : Around) (S : ASet) (s : Shared) (o : Out) (k : Nat) (s' : Shared) : Prop := ∃ S' vals', Step C hb S s S' s' ∧ FrameOk C fr n hb env A S' s' vals' ∧ Wh C fr n test body k vals' o
noncomputable def wTest (C : Cx) (A : Around) (body : List Stmt) (env : Env) (R : Result → Shared → Prop) (I : Nat → Shared → Prop) (k : Nat) : Bool → Shared → Prop
  | true, s => fBody C A body env R I k s
  | false, s => wpAny C.M A (execs [] env) (fun f s₃ => R (.ok f) s₃) (fErr C A env R) s
theorem whileLoop_named {A : Around} {R : Result → Shared → Prop} {s : Shared} {test : Expr} {body : List Stmt} {env : Env} (I : Nat → Shared → Prop) (turn : ∀ k s, I k s → wpAny C.M A (isTrue test env (eval test env)) (wTest C A body env R I k) (fErr C A env R) s) (k : Nat) (h : I k s) :
    codeAny C.M A (.whileLoop test body [] env) R s := by
  refine codeAny_whileLoop I (fun k s hI => wpAny_mono (turn k s hI) (fun b s₁ h₁ => ?_) fun _ _ z => z) k h
  cases b with
  | false => exact h₁
  | true => exact wpAny_mono h₁ (fun f s₄ h₄ => by cases f <;> exact h₄) fun _ _ z => z
theorem Wh.turn {test : Expr} {body : List Stmt} {o : Out} {k : Nat} {hb : ASet} {env : Env} {A : Around} {S S' : ASet} {s s' : Shared} (h : Wh C fr n test body k vals o) (F : FrameOk C fr n hb env A S' s' vals) (st : Step C hb S s S' s') :
    wpAny C.M A (isTrue test env (eval test env)) (wTest C A body env (LPost C fr n hb env A S s o) (wInv C fr n test body hb env A S s o) k) (fErr C A env (LPost C fr n hb env A S s o)) s' := by
  cases h with
  | stop ht =>
    refine wpAny_mono (ht hb env A S' s' F) (fun b s₁ pq => ?_) fun _ _ z => z.elim
    obtain ⟨e, S₁, g⟩ := pq
    subst e
    exact wpAny_execs_nil ⟨S₁, st.trans (F.stepGrow g), F.grow g⟩
  | next ht h2 h3 =>
    refine wpAny_mono (ht hb env A S' s' F) (fun b s₁ pq => ?_) fun _ _ z => z.elim
    obtain ⟨e, S₁, g⟩ := pq
    subst e
    refine wpAny_mono (h2 hb env A S₁ s₁ (F.grow g)) (fun f s₂ pq => ?_) fun _ _ z => z.elim
    obtain ⟨S₂, st₂, y⟩ := pq
    cases f <;> first | exact y.elim | exact ⟨_, Nat.lt_succ_self _, S₂, _, (st.trans (F.stepGrow g)).trans st₂, y, h3⟩
  | brk ht h2 =>
    refine wpAny_mono (ht hb env A S' s' F) (fun b s₁ pq => ?_) fun _ _ z => z.elim
    obtain ⟨e, S₁, g⟩ := pq
    subst e
    refine wpAny_mono (h2 hb env A S₁ s₁ (F.grow g)) (fun f s₂ pq => ?_) fun _ _ z => z.elim
    obtain ⟨S₂, st₂, y⟩ := pq
    cases f <;> first | exact y.elim | exact ⟨S₂, (st.trans (F.stepGrow g)).trans st₂, y⟩
  | ret ht h2 =>
    refine wpAny_mono (ht hb env A S' s' F) (fun b s₁ pq => ?_) fun _ _ z => z.elim
    obtain ⟨e, S₁, g⟩ := pq
    subst e
    refine wpAny_mono (h2 hb env A S₁ s₁ (F.grow g)) (fun f s₂ pq => ?_) fun _ _ z => z.elim
    obtain ⟨S₂, st₂, y⟩ := pq
    cases f <;> first | exact y.elim | exact ⟨S₂, (st.trans (F.stepGrow g)).trans st₂, y⟩
theorem Wh.loop {test : Expr} {body : List Stmt} {o : Out} {k : Nat} {hb : ASet} {env : Env} {A : Around} {S : ASet} {s : Shared} (h : Wh C fr n test body k vals o) (F : FrameOk C fr n hb env A S s vals) :
    codeAny C.M A (.whileLoop test body [] env) (LPost C fr n hb env A S s o) s :=
  whileLoop_named (wInv C fr n test body hb env A S s o) (fun _ _ ⟨_, _, st, F', h'⟩ => h'.turn F' st) k ⟨S, vals, .refl F.inv, F, h⟩

theorem Ex1.while_ {test : Expr} {body : List Stmt} {pos : Pos} {o : Out} {k : Nat} (h : Wh C fr n test body k vals o) : Ex1 C fr n vals (.While test body [] pos) o := fun hb env A S s F =>
  wpAny_While (codeAny_mono (h.loop F) fun r s' y => by
    cases r with
    | error e => exact y.elim
    | ok f => exact y)

end
end Mine

set_option tactic.hygienic false
namespace Mine
open PySem PySem.W PyProof.Rows

section
variable {C : Cx} {fr : Shape} {n : Nat} {vals vals' : List Slot}


theorem FrameOk.sameBut {hb env A S s} {a : Addr} {h' : Heap} {tk : Nat} (F : FrameOk C fr n hb env A S s vals) (hs : Heap.SameBut a s.heap h') (nS : ¬ S a) (nt : ¬ C.isTab a) (nl : a ≠ env.locals)
    (nc : ∀ v, ¬ s.heap.IsCell a v) (no : ∀ b its, ¬ hb b → PL s.heap b its → b ≠ a) (lv : hb a → liveIn h' a) : FrameOk C fr n hb env A S { s with heap := h', toks := tk } vals := by
  have st : Step C (fun b => b ≠ a) S s S { s with heap := h', toks := tk } := step_sameBut F.inv hs nS nt (fun q => q rfl)
  have kp : ∀ b o, b ≠ a → s.heap.get? b = some o → h'.get? b = some o := fun b o hb e => (hs.2 b hb).trans e
  have cc : ∀ c v, s.heap.IsCell c v → h'.IsCell c v := fun c v z => z.sameBut hs fun q => nc v (q ▸ z)
  refine ⟨st.inv, F.scope, F.kind, F.globals, F.builtins, F.around, fun b h => ?_, ?_, F.locNot, fun x c q => let ⟨v, z⟩ := F.cells x c q; ⟨v, cc _ _ z⟩, F.apart, F.ownc, ?_⟩
  · by_cases e : b = a
    · subst e; exact lv h
    · obtain ⟨o, q⟩ := live_get (F.alive b h); exact live_of (kp b o e q)
  · obtain ⟨m, x⟩ := F.ns; exact ⟨m, x.sameBut hs (Ne.symm nl)⟩
  · obtain ⟨f, hsl⟩ := F.slots
    refine ⟨f, hsl.move (fun y v x => ?_) (fun _ h => h) (fun b o hb e => kp b o (fun q => nS (q ▸ hb)) e) fun b its nSb nb x => ⟨list_sameBut x hs (no b its nb x), nSb⟩⟩
    rcases x with ⟨q, m, z, e⟩ | ⟨q, c, b, z⟩
    · exact .inl ⟨q, m, z.sameBut hs (Ne.symm nl), e⟩
    · exact .inr ⟨q, c, b, cc _ _ z⟩


noncomputable def relabelS (scope ps : Scope) : Scope :=
  { scope with names := scope.names.map fun (x, k) => if (k == .free && ps.kind == .function && ps.names.lookup x == some .cell) then (x, .cell) else (x, k) }
theorem relabel_eq (scope : Scope) (env : Env) : relabel scope env = relabelS scope env.scope := rfl

noncomputable def closOf (g : Str → Addr) : List (Str × NameKind) → List (Str × Addr) → List (Str × Addr)
  | [], acc => acc
  | (x, k) :: r, acc => if k == .free then closOf g r ((x, g x) :: acc) else closOf g r acc

theorem closureFor_of {scope : Scope} {env : Env} {g : Str → Addr} (h : ∀ x, (x, NameKind.free) ∈ scope.names → env.cells.lookup x = some (g x)) : closureFor scope env = pure (closOf g scope.names []) := by
  unfold closureFor
  have key : ∀ (names : List (Str × NameKind)) (acc : List (Str × Addr)), (∀ x, (x, NameKind.free) ∈ names → env.cells.lookup x = some (g x)) →
      (forIn names acc (fun (p : Str × NameKind) (cs : List (Str × Addr)) => if (p.2 == NameKind.free) = true then (do let c ← cellOf env p.1; pure (ForInStep.yield ((p.1, c) :: cs))) else pure (ForInStep.yield cs)) : Sem (List (Str × Addr))) = pure (closOf g names acc) := by
    intro names
    induction names with
    | nil => intro acc _; rfl
    | cons p r ih =>
      intro acc hx
      obtain ⟨x, k⟩ := p
      rw [List.forIn_cons]
      by_cases hk : k = .free
      · subst hk
        have e : cellOf env x = pure (g x) := by unfold cellOf; rw [hx x (.head _)]
        simp only [beq_self_eq_true, if_true, e, closOf]
        exact ih _ fun y hy => hx y (.tail _ hy)
      · have hb : (k == NameKind.free) = false := by simpa using hk
        simp only [hb, Bool.false_eq_true, if_false, closOf]
        exact ih _ fun y hy => hx y (.tail _ hy)
  have := key scope.names [] h
  simp only [bind_pure]
  exact this

theorem closOf_mem {g : Str → Addr} : ∀ (names : List (Str × NameKind)) (acc : List (Str × Addr)) (x : Str) (c : Addr), (x, c) ∈ closOf g names acc → (x, c) ∈ acc ∨ (c = g x ∧ (x, NameKind.free) ∈ names)
  | [], acc, x, c, h => .inl h
  | (y, k) :: r, acc, x, c, h => by
    unfold closOf at h
    split at h
    · rename_i hk
      have hk : k = .free := eq_of_beq hk
      subst hk
      rcases closOf_mem r _ x c h with h | ⟨h1, h2⟩
      · rcases List.mem_cons.mp h with e | h
        · cases e; exact .inr ⟨rfl, .head _⟩
        · exact .inl h
      · exact .inr ⟨h1, .tail _ h2⟩
    · rcases closOf_mem r _ x c h with h | ⟨h1, h2⟩
      · exact .inl h
      · exact .inr ⟨h1, .tail _ h2⟩

theorem closOf_some {g : Str → Addr} : ∀ (names : List (Str × NameKind)) (acc : List (Str × Addr)) (x : Str), ((x, NameKind.free) ∈ names ∨ (acc.lookup x).isSome = true) → ((closOf g names acc).lookup x).isSome = true
  | [], acc, x, h => h.elim (fun q => nomatch q) id
  | (y, k) :: r, acc, x, h => by
    unfold closOf
    split
    · rename_i hk
      have hk : k = .free := eq_of_beq hk
      subst hk
      refine closOf_some r _ x ?_
      rcases h with h | h
      · rcases List.mem_cons.mp h with e | h
        · cases e; right; rw [List.lookup_cons]; simp
        · exact .inl h
      · right; rw [List.lookup_cons]; split
        · rfl
        · exact h
    · rename_i hk
      refine closOf_some r _ x ?_
      rcases h with h | h
      · rcases List.mem_cons.mp h with e | h
        · cases e; exact absurd rfl hk
        · exact .inl h
      · exact .inr h

theorem cellsFrom_mem : ∀ (names : List (Str × NameKind)) (k : Nat) (acc : List (Str × Addr)) (x : Str) (c : Addr), (x, c) ∈ cellsFrom k names acc → (x, c) ∈ acc ∨ (k ≤ c ∧ (x, NameKind.cell) ∈ names)
  | [], _, _, _, _, h => .inl h
  | (y, kd) :: r, k, acc, x, c, h => by
    unfold cellsFrom at h
    split at h
    · rename_i hk
      have hk : kd = .cell := eq_of_beq hk
      subst hk
      rcases cellsFrom_mem r _ _ x c h with h | ⟨h1, h2⟩
      · rcases List.mem_cons.mp h with e | h
        · cases e; exact .inr ⟨Nat.le_refl _, .head _⟩
        · exact .inl h
      · exact .inr ⟨by lia, .tail _ h2⟩
    · rcases cellsFrom_mem r _ _ x c h with h | ⟨h1, h2⟩
      · exact .inl h
      · exact .inr ⟨h1, .tail _ h2⟩


theorem cellsFrom_apart {k₀ : Nat} : ∀ (names : List (Str × NameKind)) (k : Nat) (acc : List (Str × Addr)), k₀ ≤ k → (∀ x c, (x, c) ∈ acc → c < k) → (∀ x y c, k₀ ≤ c → (x, c) ∈ acc → (y, c) ∈ acc → x = y) →
    ∀ x y c, k₀ ≤ c → (x, c) ∈ cellsFrom k names acc → (y, c) ∈ cellsFrom k names acc → x = y
  | [], _, _, _, _, h, x, y, c, hc, h1, h2 => h x y c hc h1 h2
  | (z, kd) :: r, k, acc, hk, hlt, h, x, y, c, hc, h1, h2 => by
    unfold cellsFrom at h1 h2
    split at h1
    · rename_i q
      rw [if_pos q] at h2
      refine cellsFrom_apart r (k + 1) _ (by lia) (fun x' c' hm => ?_) (fun x' y' c' hc' hm hm' => ?_) x y c hc h1 h2
      · rcases List.mem_cons.mp hm with e | hm
        · cases e; exact Nat.lt_succ_self _
        · exact Nat.lt_succ_of_lt (hlt x' c' hm)
      · rcases List.mem_cons.mp hm with e | hm <;> rcases List.mem_cons.mp hm' with e' | hm'
        · cases e; cases e'; rfl
        · cases e; exact absurd (hlt _ _ hm') (Nat.lt_irrefl _)
        · cases e'; exact absurd (hlt _ _ hm) (Nat.lt_irrefl _)
        · exact h x' y' c' hc' hm hm'
    · rename_i q
      rw [if_neg q] at h2
      exact cellsFrom_apart r k acc hk hlt h x y c hc h1 h2


theorem cellsFrom_isCell : ∀ (names : List (Str × NameKind)) (h : Heap) (acc : List (Str × Addr)) (x : Str) (c : Addr), (x, c) ∈ cellsFrom h.objs.size names acc → (x, c) ∈ acc ∨ (pushCells h names).IsCell c none
  | [], _, _, _, _, h => .inl h
  | (y, kd) :: r, hp, acc, x, c, h => by
    unfold cellsFrom at h
    unfold pushCells
    split at h
    · rename_i hk
      rw [if_pos hk]
      have e : hp.objs.size + 1 = (hp.push { cls := .type "cell", data := .cell none }).objs.size := (Heap.size_push ..).symm
      rw [e] at h
      rcases cellsFrom_isCell r _ _ x c h with h | h
      · rcases List.mem_cons.mp h with e | h
        · cases e
          exact .inr ⟨_, pushCells_keeps r _ _ _ (Heap.get?_push_size _ rfl), rfl⟩
        · exact .inl h
      · exact .inr h
    · rename_i hk
      rw [if_neg hk]
      exact cellsFrom_isCell r _ _ x c h

noncomputable def compEnv (scope : Scope) (cells : List (Str × Addr)) (L : Addr) (env : Env) : Env :=
  { scope, locals := L, globals := env.globals, cells, qual := env.qual, func := none, code := env.code, frame := env.frame, builtins := env.builtins }

theorem newCompEnv {M : Model} {A : Around} {s : Shared} {scope : Scope} {cl : List (Str × Addr)} {env : Env} {Q : Env → Shared → Prop}
    (h : Q (compEnv scope (cellsFrom (s.heap.objs.size + 1) scope.names cl) s.heap.objs.size env) { s with heap := pushCells (s.heap.push { cls := .type "dict", data := .dict #[] }) scope.names }) :
    wpAny M A (newFunctionEnv scope env.globals cl [] env.qual none .none (some env)) Q F0 s := by
  simp only [newFunctionEnv, Option.isSome_some, if_true]
  refine wpAny_bind (wpAny_alloc ?_)
  refine wpAny_bind (wpAny_layCells _ (fun name kind cells => by cases hkc : kind == NameKind.cell <;> simp [hkc]) _ _ _ _ ?_)
  rw [show ({ s with heap := s.heap.push { cls := .type "dict", data := .dict #[] } } : Shared).heap.objs.size = s.heap.objs.size + 1 from Heap.size_push ..]
  exact wpAny_bind (wpAny_pure (wpAny_pure h))

end
end Mine

set_option tactic.hygienic false
namespace Mine
open PySem PySem.W PyProof.Rows

section
variable {C : Cx} {fr : Shape} {n : Nat} {vals vals' : List Slot}


noncomputable def EvIfs (C : Cx) (fr : Shape) (n : Nat) (vals : List Slot) (ifs : List Expr) (b : Bool) : Prop :=
  (ifs = [] ∧ b = true) ∨ ∃ c, ifs = [c] ∧ EvB C fr n vals c b
theorem EvIfs.none : EvIfs C fr n vals [] true := .inl ⟨rfl, rfl⟩
theorem EvIfs.one {c : Expr} {b : Bool} (h : EvB C fr n vals c b) : EvIfs C fr n vals [c] b := .inr ⟨c, rfl, h⟩

inductive CTurns (C : Cx) (fr : Shape) (n : Nat) (elt tgt : Expr) (ifs : List Expr) : List Slot → List VP → List VP → Prop where
  | nil {vals : List Slot} : CTurns C fr n elt tgt ifs vals [] []
  | keep {vals v1 : List Slot} {p q : VP} {rest l : List VP} (h1 : Asg C fr n vals tgt p v1) (h2 : EvIfs C fr n v1 ifs true) (h3 : Ev C fr n v1 elt q) (h4 : CTurns C fr n elt tgt ifs v1 rest l) : CTurns C fr n elt tgt ifs vals (p :: rest) (q :: l)
  | skip {vals v1 : List Slot} {p : VP} {rest l : List VP} (h1 : Asg C fr n vals tgt p v1) (h2 : EvIfs C fr n v1 ifs false) (h4 : CTurns C fr n elt tgt ifs v1 rest l) : CTurns C fr n elt tgt ifs vals (p :: rest) l

theorem CTurns.step {elt tgt : Expr} {ifs : List Expr} {p : VP} {rest l : List VP} (h : CTurns C fr n elt tgt ifs vals (p :: rest) l) :
    ∃ v1, Asg C fr n vals tgt p v1 ∧ ((∃ q l', l = q :: l' ∧ EvIfs C fr n v1 ifs true ∧ Ev C fr n v1 elt q ∧ CTurns C fr n elt tgt ifs v1 rest l') ∨ (EvIfs C fr n v1 ifs false ∧ CTurns C fr n elt tgt ifs v1 rest l)) := by
  cases h with
  | keep h1 h2 h3 h4 => exact ⟨_, h1, .inl ⟨_, _, rfl, h2, h3, h4⟩⟩
  | skip h1 h2 h4 => exact ⟨_, h1, .inr ⟨h2, h4⟩⟩

noncomputable def ifsOf (ifs : List Expr) (env : Env) : Sem Bool := forIn ifs true fun c r => if r = true then do let ok ← isTrue c env (eval c env); pure (ForInStep.yield ok) else pure (ForInStep.yield r)
theorem EvIfs.run {hb env A S s} {ifs : List Expr} {b : Bool} (h : EvIfs C fr n vals ifs b) (F : FrameOk C fr n hb env A S s vals) :
    wpAny C.M A (ifsOf ifs env) (fun c s' => c = b ∧ ∃ S', Grow C S s S' s') F0 s := by
  rcases h with ⟨rfl, rfl⟩ | ⟨c, rfl, h⟩
  · exact wpAny_pure ⟨rfl, S, .refl F.inv⟩
  · exact wpAny_tests_one (h hb env A S s F)


noncomputable def cEnd (I : Nat → Shared → Prop) (n : Nat) (s : Shared) : Prop := ∃ m, m < n ∧ I m s
noncomputable def cApp (C : Cx) (A : Around) (acc : Value) (I : Nat → Shared → Prop) (n : Nat) (x : Value) (s : Shared) : Prop := wpAny C.M A (call (.builtin "list.append") [acc, x]) (fun _ => cEnd I n) F0 s
noncomputable def cElt (C : Cx) (A : Around) (elt : Expr) (env : Env) (acc : Value) (I : Nat → Shared → Prop) (n : Nat) : Bool → Shared → Prop
  | true, s => wpAny C.M A (eval elt env) (cApp C A acc I n) F0 s
  | false, s => cEnd I n s
noncomputable def cIfs (C : Cx) (A : Around) (elt : Expr) (ifs : List Expr) (env : Env) (acc : Value) (I : Nat → Shared → Prop) (n : Nat) (s : Shared) : Prop := wpAny C.M A (ifsOf ifs env) (cElt C A elt env acc I n) F0 s
noncomputable def cAsg (C : Cx) (A : Around) (elt tgt : Expr) (ifs : List Expr) (env : Env) (acc : Value) (I : Nat → Shared → Prop) (n : Nat) (v : Value) (s : Shared) : Prop := wpAny C.M A (assign tgt env v) (fun _ => cIfs C A elt ifs env acc I n) F0 s
noncomputable def cNext (C : Cx) (A : Around) (elt tgt : Expr) (ifs : List Expr) (env : Env) (it acc : Value) (R : Result → Shared → Prop) (I : Nat → Shared → Prop) (n : Nat) : Option Value → Shared → Prop
  | none, s => R (.ok .next) s
  | some v, s => wpAny C.M A (letOwnedTupleGo tgt it v) (fun _ => cAsg C A elt tgt ifs env acc I n v) F0 s

theorem compLoop_any {A : Around} {R : Result → Shared → Prop} {s : Shared} {elt target iter : Expr} {ifs : List Expr} {scope : Scope} {pos : Pos} {it acc : Value} {env : Env} (I : Nat → Shared → Prop)
    (turn : ∀ n s, I n s → wpAny C.M A (pyNext it) (cNext C A elt target ifs env it acc R I n) F0 s)
    (n : Nat) (h : I n s) : codeAny C.M A (.compLoop (.ListComp elt [⟨target, iter, ifs, 0⟩] scope pos) 0 it acc env) R s := by
  refine codeAny_loop rfl I (fun n s hI => ?_) n h
  show wpAny _ A ((compTurn (.ListComp elt [⟨target, iter, ifs, 0⟩] scope pos) 0 it acc env).onRaise (fun x => do noteFrame x env; theTreesLotGoes x)) _ _ s
  refine wpAny_noted ?_
  rw [compTurn_list]
  refine wpAny_bind (wpAny_standAt (wpAny_bind (wpAny_mono (turn n s hI) (fun r s₁ h₁ => ?_) fun _ _ h' => h'.elim)))
  cases r with
  | none => exact wpAny_pure h₁
  | some v =>
    refine wpAny_bind (wpAny_mono h₁ (fun _ s₁' h₁' => ?_) fun _ _ h' => h'.elim)
    refine wpAny_bind (wpAny_mono h₁' (fun _ s₂ h₂ => wpAny_bind (wpAny_mono h₂ (fun ok s₃ h₃ => ?_) fun _ _ h' => h'.elim)) fun _ _ h' => h'.elim)
    cases ok with
    | false => exact wpAny_pure ⟨rfl, h₃⟩
    | true =>
      exact wpAny_bind (wpAny_bind (wpAny_mono h₃ (fun x s₄ h₄ => wpAny_bind (wpAny_mono h₄ (fun _ s₅ h₅ => wpAny_pure (wpAny_pure ⟨rfl, h₅⟩)) fun _ _ h' => h'.elim)) fun _ _ h' => h'.elim))


noncomputable def CPost (C : Cx) (hx S : ASet) (s : Shared) (D L : Addr) (l : List VP) : Result → Shared → Prop
  | .ok _, s' => ∃ S' vs, Step C hx S s S' s' ∧ ¬ S' D ∧ PL s'.heap D (List.toArray vs) ∧ All2 S' s'.heap vs l ∧ ¬ S' L ∧ ∃ m, s'.heap.Ns L m
  | .error _, _ => False

structure CMid (C : Cx) (fr : Shape) (n : Nat) (elt tgt : Expr) (ifs : List Expr) (hx : ASet) (env : Env) (A : Around) (I D : Addr) (wr : List Addr) (S : ASet) (s : Shared) (l : List VP) (S' : ASet) (s' : Shared) (vals' : List Slot) (items' l' : List VP) (vs : List Value) (l₀ : List VP) : Prop where
  st : Step C hx S s S' s'
  F : FrameOk C fr n (plus (fun b => hx b ∨ b = D) wr) env A S' s' vals'
  hi : ItOk S' s'.heap I wr items'
  nS : ∀ a ∈ wr, ¬ S' a
  nD : ¬ S' D
  hD : PL s'.heap D (List.toArray vs)
  hvs : All2 S' s'.heap vs l₀
  hl : l = l₀ ++ l'
  ht : CTurns C fr n elt tgt ifs vals' items' l'
  tg : TgtOk tgt wr
noncomputable def CInv (C : Cx) (fr : Shape) (n : Nat) (elt tgt : Expr) (ifs : List Expr) (hx : ASet) (env : Env) (A : Around) (I D : Addr) (wr : List Addr) (S : ASet) (s : Shared) (l : List VP) (k : Nat) (s' : Shared) : Prop :=
  ∃ S' vals' items' l' vs l₀, k = items'.length ∧ CMid C fr n elt tgt ifs hx env A I D wr S s l S' s' vals' items' l' vs l₀

theorem PL.kept {h h' : Heap} {a : Addr} {its : Array Value} (hk : ∀ o, h.get? a = some o → h'.get? a = some o) (x : PL h a its) : PL h' a its := let ⟨o, n, e, r⟩ := x; ⟨o, n, hk o e, r⟩
theorem PL.live {h : Heap} {a : Addr} {its : Array Value} (x : PL h a its) : liveIn h a := let ⟨_, _, e, _⟩ := x; live_of e
theorem CMid.end_ {elt tgt : Expr} {ifs : List Expr} {hx : ASet} {env : Env} {A : Around} {S S' : ASet} {s s' : Shared} {I D : Addr} {wr : List Addr} {l l' l₀ : List VP} {vals' : List Slot} {vs : List Value} {J : Nat → Shared → Prop} {k : Nat}
    (M : CMid C fr n elt tgt ifs hx env A I D wr S s l S' s' vals' [] l' vs l₀) (nb : ∀ a ∈ wr, ¬ hx a) : wpAny C.M A (pyNext (.ref I)) (cNext C A elt tgt ifs env (.ref I) (.ref D) (CPost C hx S s D env.locals l) J k) F0 s' := by
  have nbD : ∀ a ∈ wr, ¬ (hx a ∨ a = D) := fun a ha q => q.elim (nb a ha) fun e => (M.hi.foreign a ha).ne_list M.hD e
  have Dw : D ∉ wr := fun q => (M.hi.foreign D q).ne_list M.hD rfl
  refine wpAny_mono (M.hi.end_ M.F.inv M.F.around.handled M.nS rfl) (fun r s₁ h => ?_) fun _ _ z => z.elim
  have e := h.1
  have m := h.2
  subst e
  have hl := M.hl
  cases M.ht
  rw [List.append_nil] at hl
  subst hl
  have F₁ := M.F.movesW M.hi.foreign m nbD
  have mv : Step C hx S' s' S' s₁ := m.weaken fun b h => ⟨M.F.alive b (.inl (.inl h)), fun q => nb b q h⟩
  exact ⟨S', vs, M.st.trans mv, M.nD, PL.kept (fun o e => m.all _ _ Dw (M.F.inv.notab_list M.hD) e) M.hD, M.hvs.keep (m.keeps M.F.inv), F₁.locNot.1, F₁.ns⟩


theorem CMid.go {elt tgt : Expr} {ifs : List Expr} {hx : ASet} {env : Env} {A : Around} {S S' S₂ S₄ : ASet} {s s' s₂ s₄ : Shared} {I D : Addr} {wr : List Addr} {p : VP} {rest l l' l₀ : List VP} {vals' : List Slot} {vs : List Value}
    (M : CMid C fr n elt tgt ifs hx env A I D wr S s l S' s' vals' (p :: rest) l' vs l₀) (nb : ∀ a ∈ wr, ¬ hx a) (m : Moves C wr S' s' S₂ s₂) (nS₂ : ∀ a ∈ wr, ¬ S₂ a) (hi₂ : ItOk S₂ s₂.heap I wr rest)
    (st24 : Step C (plus (fun b => hx b ∨ b = D) wr) S₂ s₂ S₄ s₄) :
    Step C hx S s S₄ s₄ ∧ ItOk S₄ s₄.heap I wr rest ∧ (∀ a ∈ wr, ¬ S₄ a) ∧ ¬ S₄ D ∧ PL s₄.heap D (List.toArray vs) ∧ All2 S₄ s₄.heap vs l₀ := by
  have Dw : D ∉ wr := fun q => (M.hi.foreign D q).ne_list M.hD rfl
  have mv : Step C hx S' s' S₂ s₂ := m.weaken fun b h => ⟨M.F.alive b (.inl (.inl h)), fun q => nb b q h⟩
  have hD₂ : PL s₂.heap D (List.toArray vs) := PL.kept (fun o e => m.all _ _ Dw (M.F.inv.notab_list M.hD) e) M.hD
  have nD₂ : ¬ S₂ D := fun q => (m.new D q).elim M.nD fun e => e ⟨M.hD.live, Dw⟩
  have hv₂ : All2 S₂ s₂.heap vs l₀ := (M.hvs.keep (m.keeps M.F.inv)).mono m.sub
  refine ⟨(M.st.trans mv).trans (st24.weaken fun _ h => .inl (.inl h)), hi₂.keep st24.sub (st24.keeps m.inv) fun a ha o e => st24.kept a o ((hi₂.foreign a ha).notab m.inv) (.inl (.inr ha)) e, fun a ha q => (st24.new a q).elim (nS₂ a ha) fun e => e (.inr ha),
    fun q => (st24.new D q).elim nD₂ fun e => e (.inl (.inr rfl)), PL.kept (fun o e => st24.kept D o (m.inv.notab_list hD₂) (.inl (.inl (.inr rfl))) e) hD₂, (hv₂.keep (st24.keeps m.inv)).mono st24.sub⟩


theorem cPut {elt tgt : Expr} {ifs : List Expr} {hx : ASet} {env : Env} {A : Around} {S S₅ : ASet} {s s₅ : Shared} {I D : Addr} {wr : List Addr} {rest l l'' l₀ : List VP} {v1 : List Slot} {vs : List Value} {x : Value} {q : VP}
    (F₅ : FrameOk C fr n (plus (fun b => hx b ∨ b = D) wr) env A S₅ s₅ v1) (a1 : Step C hx S s S₅ s₅) (a2 : ItOk S₅ s₅.heap I wr rest) (a3 : ∀ a ∈ wr, ¬ S₅ a) (a4 : ¬ S₅ D) (a5 : PL s₅.heap D (List.toArray vs)) (a6 : All2 S₅ s₅.heap vs l₀)
    (nxD : ¬ hx D) (hl : l = l₀ ++ q :: l'') (hsz : l.length ≤ sizeLine) (hx₅ : q.P S₅ s₅.heap x) (h5 : CTurns C fr n elt tgt ifs v1 rest l'') (tg : TgtOk tgt wr) :
    wpAny C.M A (call (.builtin "list.append") [.ref D, x]) (fun _ => cEnd (CInv C fr n elt tgt ifs hx env A I D wr S s l) (rest.length + 1)) F0 s₅ := by
  refine list_append_PL a5 (fun h' hp' hs' => ?_) (by
    rw [List.size_toArray, a6.length]
    have := congrArg List.length hl
    simp at this
    lia)
  have nt := F₅.inv.notab_list a5
  have st₆ : Step C hx S₅ s₅ S₅ { s₅ with heap := h' } := step_sameBut (tk := s₅.toks) F₅.inv hs' a4 nt nxD
  exact ⟨rest.length, Nat.lt_succ_self _, S₅, v1, rest, l'', vs ++ [x], l₀ ++ [q], rfl,
    { st := a1.trans st₆
      F := F₅.sameBut (tk := s₅.toks) hs' a4 nt (fun e => F₅.ns.elim fun mm z => list_ne_ns a5 z e) (fun v z => list_ne_cell a5 z rfl) (fun b its hnb _ e => hnb (e ▸ .inl (.inr rfl))) (fun _ => hp'.live)
      hi := a2.keep (fun _ h => h) (st₆.keeps F₅.inv) fun a ha o e => (hs'.2 a fun q => (a2.foreign a ha).ne_list a5 q).trans e
      nS := a3
      nD := a4
      hD := by simpa using hp'
      hvs := (a6.append (show All2 S₅ s₅.heap [x] [q] from ⟨hx₅, trivial⟩)).keep (st₆.keeps F₅.inv)
      hl := by rw [hl]; simp
      ht := h5
      tg := tg }⟩

theorem CMid.turn {elt tgt : Expr} {ifs : List Expr} {hx : ASet} {env : Env} {A : Around} {S S' : ASet} {s s' : Shared} {I D : Addr} {wr : List Addr} {p : VP} {rest l l' l₀ : List VP} {vals' : List Slot} {vs : List Value} {R : Result → Shared → Prop}
    (M : CMid C fr n elt tgt ifs hx env A I D wr S s l S' s' vals' (p :: rest) l' vs l₀) (nb : ∀ a ∈ wr, ¬ hx a) (nxD : ¬ hx D) (hsz : l.length ≤ sizeLine) :
    wpAny C.M A (pyNext (.ref I)) (cNext C A elt tgt ifs env (.ref I) (.ref D) R (CInv C fr n elt tgt ifs hx env A I D wr S s l) (rest.length + 1)) F0 s' := by
  have nbD : ∀ a ∈ wr, ¬ (hx a ∨ a = D) := fun a ha q => q.elim (nb a ha) fun e => (M.hi.foreign a ha).ne_list M.hD e
  obtain ⟨v1, h1, h2⟩ := M.ht.step
  refine wpAny_mono (M.hi.item (tgt := tgt) M.F.inv h1.1 M.tg M.nS rfl) (fun r s₁ pq => ?_) fun _ _ z => z.elim
  obtain ⟨v, e, w⟩ := pq
  subst e
  refine wpAny_mono w (fun _ s₂ pq => ?_) fun _ _ z => z.elim
  obtain ⟨S₂, m, nS₂, hp, hi₂⟩ := pq
  have F₂ := M.F.moves M.hi.foreign m nbD hi₂.foreign
  refine wpAny_mono (h1.2 _ env A S₂ s₂ v F₂ hp) (fun _ s₃ pq => ?_) fun _ _ z => z.elim
  obtain ⟨S₃, st₃, F₃⟩ := pq
  rcases h2 with ⟨q, l'', rfl, h3, h4, h5⟩ | ⟨h3, h5⟩
  · refine wpAny_mono (h3.run F₃) (fun ok s₄ pq => ?_) fun _ _ z => z.elim
    obtain ⟨e, S₄, g₄⟩ := pq
    subst e
    refine wpAny_mono (h4 _ env A S₄ s₄ (F₃.grow g₄)) (fun x s₅ pq => ?_) fun _ _ z => z.elim
    obtain ⟨S₅, g₅, hx₅⟩ := pq
    obtain ⟨a1, a2, a3, a4, a5, a6⟩ := M.go nb m nS₂ hi₂ (st₃.trans ((F₃.stepGrow g₄).trans ((F₃.grow g₄).stepGrow g₅)))
    exact cPut ((F₃.grow g₄).grow g₅) a1 a2 a3 a4 a5 a6 nxD M.hl hsz hx₅ h5 M.tg
  · refine wpAny_mono (h3.run F₃) (fun ok s₄ pq => ?_) fun _ _ z => z.elim
    obtain ⟨e, S₄, g₄⟩ := pq
    subst e
    obtain ⟨a1, a2, a3, a4, a5, a6⟩ := M.go nb m nS₂ hi₂ (st₃.trans (F₃.stepGrow g₄))
    exact ⟨rest.length, Nat.lt_succ_self _, S₄, v1, rest, l', vs, l₀, rfl, ⟨a1, F₃.grow g₄, a2, a3, a4, a5, a6, M.hl, h5, M.tg⟩⟩


theorem CTurns.loop {elt tgt iter : Expr} {ifs : List Expr} {scope : Scope} {pos : Pos} {items l : List VP} {hx : ASet} {env : Env} {A : Around} {S : ASet} {s : Shared} {I D : Addr} {wr : List Addr}
    (h : CTurns C fr n elt tgt ifs vals items l) (F : FrameOk C fr n (plus (fun b => hx b ∨ b = D) wr) env A S s vals) (hi : ItOk S s.heap I wr items) (nS : ∀ a ∈ wr, ¬ S a) (nb : ∀ a ∈ wr, ¬ hx a) (nD : ¬ S D) (nxD : ¬ hx D)
    (hD : PL s.heap D #[]) (hsz : l.length ≤ sizeLine) (tg : TgtOk tgt wr) :
    codeAny C.M A (.compLoop (.ListComp elt [⟨tgt, iter, ifs, 0⟩] scope pos) 0 (.ref I) (.ref D) env) (CPost C hx S s D env.locals l) s := by
  refine compLoop_any (CInv C fr n elt tgt ifs hx env A I D wr S s l) (fun k s' => ?_) items.length ⟨S, vals, items, l, [], [], rfl, ⟨.refl F.inv, F, hi, nS, nD, hD, trivial, rfl, h, tg⟩⟩
  rintro ⟨S', vals', items', l', vs, l₀, rfl, M⟩
  cases items' with
  | nil => exact M.end_ nb
  | cons p rest => exact M.turn nb nxD hsz


noncomputable def compShape (fr : Shape) (scope : Scope) (frC : Shape) (own : List Str) (idx : List Nat) : Bool :=
  scope.kind == .function && scope.names.all (fun x => x.2 != .local || scope.names.lookup x.1 == some .local) &&
  decide (frC.names = own ++ idx.filterMap (fr.names[·]?)) && decide frC.names.Nodup && decide (frC.scope = relabelS scope fr.scope) &&
  idx.all (fun i => match fr.names[i]? with
    | some y => scope.names.contains (y, .free) && (frC.scope.names.lookup y == some .cell || frC.scope.names.lookup y == some .free) && (fr.scope.names.lookup y == some .cell || fr.scope.names.lookup y == some .free) && !scope.names.contains (y, .cell)
    | none => false) &&
  scope.names.all (fun x => x.2 != .free || fr.cells.contains x.1 || idx.any (fun i => fr.names[i]? == some x.1)) &&
  frC.cells.all (fun x => scope.names.any (fun p => p.1 == x && p.2 == .cell) && !scope.names.contains (x, .free))


noncomputable def Idx (vals : List Slot) : List Nat → List VP → Prop
  | [], [] => True
  | i :: is, q :: qs => vals[i]? = some (.val q) ∧ Idx vals is qs
  | _, _ => False

noncomputable def compVals (own : List Str) (qs : List VP) : List Slot := own.map (fun _ => .un) ++ qs.map .val

theorem Idx.get : ∀ {idx : List Nat} {qs : List VP}, Idx vals idx qs → idx.length = qs.length ∧ ∀ (j i : Nat), idx[j]? = some i → ∃ q, qs[j]? = some q ∧ vals[i]? = some (.val q)
  | [], [], _ => ⟨rfl, fun _ _ e => by simp at e⟩
  | i :: is, q :: qs, ⟨a, b⟩ => ⟨by simp [b.get.1], fun j k e => by
      cases j with
      | zero => simp at e; subst e; exact ⟨q, by simp, a⟩
      | succ j => simp at e; obtain ⟨q', h1, h2⟩ := b.get.2 j k e; exact ⟨q', by simpa using h1, h2⟩⟩
  | [], _ :: _, x => x.elim
  | _ :: _, [], x => x.elim

theorem filterMap_all {fr : Shape} : ∀ {idx : List Nat}, (∀ i ∈ idx, ∃ y, fr.names[i]? = some y) → (idx.filterMap (fr.names[·]?)).length = idx.length ∧ ∀ j : Nat, (idx.filterMap (fr.names[·]?))[j]? = idx[j]?.bind fun i => fr.names[i]?
  | [], _ => ⟨rfl, fun _ => by simp⟩
  | i :: is, h => by
    obtain ⟨y, hy⟩ := h i (.head _)
    obtain ⟨h1, h2⟩ := filterMap_all (idx := is) fun k hk => h k (.tail _ hk)
    rw [List.filterMap_cons, hy]
    refine ⟨by simp [h1], fun j => ?_⟩
    cases j with
    | zero => simp [hy]
    | succ j => simpa using h2 j

theorem comp_frame {hb env A S s} {scope : Scope} {frC : Shape} {own : List Str} {idx : List Nat} {qs : List VP} {hB : ASet} {s₃ : Shared} {S₃ : ASet} (F : FrameOk C fr n hb env A S s vals) (K : compShape fr scope frC own idx = true) (hq : Idx vals idx qs)
    (g : Grow C S s S₃ s₃) (hB1 : ∀ b, hB b → liveIn s₃.heap b) :
    closureFor scope env = pure (closOf (fun x => (env.cells.lookup x).getD 0) scope.names []) ∧
    FrameOk C frC n hB (compEnv (relabel scope env) (cellsFrom (s₃.heap.objs.size + 1) scope.names (closOf (fun x => (env.cells.lookup x).getD 0) scope.names [])) s₃.heap.objs.size env) A S₃
      { s₃ with heap := pushCells (s₃.heap.push { cls := .type "dict", data := .dict #[] }) scope.names } (compVals own qs) := by
  simp only [compShape, Bool.and_eq_true, decide_eq_true_eq] at K
  obtain ⟨⟨⟨⟨⟨⟨⟨k1, k2⟩, k3⟩, k4⟩, k5⟩, k6⟩, k7⟩, k8⟩ := K
  have k1 : scope.kind = .function := eq_of_beq k1
  have F₃ := F.grow g
  obtain ⟨f, hsl⟩ := F₃.slots
  have hidx : ∀ i ∈ idx, ∃ y, fr.names[i]? = some y ∧ (y, NameKind.free) ∈ scope.names ∧ (frC.scope.names.lookup y = some .cell ∨ frC.scope.names.lookup y = some .free) ∧ (fr.scope.names.lookup y = some .cell ∨ fr.scope.names.lookup y = some .free) ∧ (y, NameKind.cell) ∉ scope.names := fun i hi => by
    have := List.all_eq_true.mp k6 i hi
    split at this
    · rename_i y hy
      simp only [Bool.and_eq_true, Bool.or_eq_true, Bool.not_eq_true', beq_iff_eq, List.contains_iff_mem] at this
      refine ⟨y, hy, this.1.1.1, this.1.1.2, this.1.2, fun q => ?_⟩
      have h2 := this.2
      rw [← Bool.not_eq_true, List.contains_iff_mem] at h2
      exact h2 q
    · cases this
  obtain ⟨hql, hqg⟩ := hq.get
  -- a name that is taken from around has a cell there
  have cellAt : ∀ i ∈ idx, ∀ y, fr.names[i]? = some y → ∃ c v q, env.cells.lookup y = some c ∧ s₃.heap.IsCell c (some v) ∧ vals[i]? = some (.val q) ∧ q.P S₃ s₃.heap v := fun i hi y hy => by
    obtain ⟨j, hj⟩ := List.getElem?_of_mem hi
    obtain ⟨q, _, hv⟩ := hqg j i hj
    obtain ⟨v, hH, hp⟩ := hsl.2.1 i y _ hy hv
    obtain ⟨y', hy', _, _, hk, _⟩ := hidx i hi
    rw [hy] at hy'; cases hy'
    rcases hH with ⟨hl, _⟩ | ⟨_, c, e, z⟩
    · rw [kindOf_eq, F.scope] at hl
      rcases hk with hk | hk <;> rw [hk] at hl <;> cases hl
    · exact ⟨c, v, q, e, z, hv, hp⟩
  have freeCell : ∀ x, (x, NameKind.free) ∈ scope.names → ∃ c, env.cells.lookup x = some c := fun x hx => by
    have := List.all_eq_true.mp k7 _ hx
    simp only [bne_self_eq_false, Bool.false_or, Bool.or_eq_true, List.contains_iff_mem, List.any_eq_true, beq_iff_eq] at this
    rcases this with h | ⟨i, hi, hy⟩
    · obtain ⟨c, e, _⟩ := F.ownc x h; exact ⟨c, e⟩
    · obtain ⟨c, _, _, e, _⟩ := cellAt i hi x hy; exact ⟨c, e⟩
  have hcl : closureFor scope env = pure (closOf (fun x => (env.cells.lookup x).getD 0) scope.names []) := closureFor_of fun x hx => by
    obtain ⟨c, e⟩ := freeCell x hx
    rw [e]; rfl
  refine ⟨hcl, ?_⟩
  generalize hclE : closOf (fun x => (env.cells.lookup x).getD 0) scope.names [] = cl
  have clMem : ∀ x c, (x, c) ∈ cl → env.cells.lookup x = some c := fun x c hm => by
    rw [← hclE] at hm
    rcases closOf_mem _ _ _ _ hm with h | ⟨h1, h2⟩
    · cases h
    · obtain ⟨c', e⟩ := freeCell x h2
      rw [e] at h1 ⊢
      rw [h1]; rfl
  have clLive : ∀ x c, (x, c) ∈ cl → (∃ v, s₃.heap.IsCell c v) ∧ c < s₃.heap.objs.size := fun x c hm => by
    obtain ⟨v, z⟩ := F₃.cells x c (clMem x c hm)
    exact ⟨⟨v, z⟩, z.lt⟩
  have hsz1 : (s₃.heap.push { cls := .type "dict", data := .dict #[] }).objs.size = s₃.heap.objs.size + 1 := Heap.size_push ..
  have kp : ∀ b o, s₃.heap.get? b = some o → (pushCells (s₃.heap.push { cls := .type "dict", data := .dict #[] }) scope.names).get? b = some o := fun b o e => pushCells_keeps _ _ _ _ (Heap.get?_push_of_some _ e)
  have g₄ : Grow C S₃ s₃ S₃ { s₃ with heap := pushCells (s₃.heap.push { cls := .type "dict", data := .dict #[] }) scope.names } := grow_of_kept (tk := s₃.toks) g.inv kp (fun _ h => h) fun _ h => .inl h
  have big : ∀ c, s₃.heap.objs.size ≤ c → ¬ liveIn s₃.heap c := fun c hc q => by
    obtain ⟨o, e⟩ := live_get q
    exact absurd (Heap.lt_size e) (Nat.not_lt.mpr hc)
  have cellKind : ∀ x c, (x, c) ∈ cellsFrom (s₃.heap.objs.size + 1) scope.names cl → ((x, c) ∈ cl) ∨ (s₃.heap.objs.size + 1 ≤ c ∧ (x, NameKind.cell) ∈ scope.names) := fun x c h => cellsFrom_mem _ _ _ _ _ h
  have hcells : ∀ x c, (cellsFrom (s₃.heap.objs.size + 1) scope.names cl).lookup x = some c → ∃ v, (pushCells (s₃.heap.push { cls := .type "dict", data := .dict #[] }) scope.names).IsCell c v := fun x c e => by
    have hm := mem_of_lookup e
    rw [← hsz1] at hm
    rcases cellsFrom_isCell _ _ _ _ _ hm with h | h
    · obtain ⟨⟨v, z⟩, _⟩ := clLive x c h
      exact ⟨v, z.keeps kp⟩
    · exact ⟨none, h⟩
  have ownCell : ∀ x ∈ frC.cells, ∃ c, (cellsFrom (s₃.heap.objs.size + 1) scope.names cl).lookup x = some c ∧ s₃.heap.objs.size + 1 ≤ c := fun x hx => by
    have := List.all_eq_true.mp k8 x hx
    rw [Bool.and_eq_true] at this
    obtain ⟨c, hc⟩ := Option.isSome_iff_exists.mp (cellsFrom_some scope.names (s₃.heap.objs.size + 1) cl x (.inl this.1))
    refine ⟨c, hc, ?_⟩
    rcases cellKind x c (mem_of_lookup hc) with h | h
    · exfalso
      rw [← hclE] at h
      rcases closOf_mem _ _ _ _ h with h | ⟨_, h⟩
      · cases h
      · have h2 := this.2
        rw [Bool.not_eq_true', ← Bool.not_eq_true, List.contains_iff_mem] at h2
        exact h2 h
    · exact h.1
  refine ⟨g₄.inv, ?_, k1, F.globals, F.builtins, F.around, fun b h => g₄.alive (hB1 b h), ⟨_, (Heap.Ns.new s₃.heap (.type "dict")).keeps (pushCells_keeps _ _)⟩, ⟨not_size g.inv, fun q => big _ (Nat.le_refl _) (hB1 _ q)⟩, hcells, fun x hx y c e e' => ?_, fun x hx => ?_, fun _ => 0, ?_, fun j y t hy ht => ?_, fun j k l l' hj _ _ => ?_⟩
  · show relabel scope env = frC.scope
    rw [k5, relabel_eq, F.scope]
  · obtain ⟨c', e1, e2⟩ := ownCell x hx
    have e : (cellsFrom (s₃.heap.objs.size + 1) scope.names cl).lookup x = some c := e
    rw [e] at e1; cases e1
    exact cellsFrom_apart (k₀ := s₃.heap.objs.size + 1) scope.names _ cl (Nat.le_refl _) (fun x' c' hm => Nat.lt_succ_of_lt (clLive x' c' hm).2) (fun x' y' c' hc' hm _ => absurd (clLive x' c' hm).2 (Nat.not_lt.mpr (Nat.le_of_succ_le hc'))) y x c e2 (mem_of_lookup e') (mem_of_lookup e)
  · obtain ⟨c, e1, e2⟩ := ownCell x hx
    exact ⟨c, e1, fun q => big c (Nat.le_of_succ_le e2) (hB1 c q), fun q => big c (Nat.le_of_succ_le e2) (g.inv.live c q)⟩
  · rw [k3]
    have := (filterMap_all (fr := fr) (idx := idx) fun i hi => let ⟨y, hy, _⟩ := hidx i hi; ⟨y, hy⟩).1
    simp only [compVals, List.length_append, List.length_map, this, hql]
  · unfold compVals at ht
    rw [k3] at hy
    rw [List.getElem?_append] at ht hy
    rw [List.length_map] at ht
    by_cases hj : j < own.length
    · rw [if_pos hj, List.getElem?_map] at ht
      cases e : own[j]? with
      | none => rw [e] at ht; cases ht
      | some x => rw [e] at ht; cases ht; trivial
    · rw [if_neg hj, List.getElem?_map] at ht
      rw [if_neg hj, (filterMap_all (fr := fr) (idx := idx) fun i hi => let ⟨y, hy, _⟩ := hidx i hi; ⟨y, hy⟩).2] at hy
      cases e : idx[j - own.length]? with
      | none => rw [e] at hy; cases hy
      | some i =>
        rw [e] at hy
        have hy : fr.names[i]? = some y := hy
        have hi := List.mem_of_getElem? e
        obtain ⟨q, hq1, hq2⟩ := hqg _ _ e
        rw [hq1] at ht; cases ht
        obtain ⟨c, v, q', e1, z, e3, hp⟩ := cellAt i hi y hy
        rw [hq2] at e3; cases e3
        obtain ⟨y', hy', hfree, hkC, _, hnc⟩ := hidx i hi
        rw [hy] at hy'; cases hy'
        refine ⟨v, .inr ⟨hkC.imp (fun q => ?_) (fun q => ?_), c, ?_, z.keeps kp⟩, q.keep (fun b o _ e => kp b o e) hp⟩
        · show (relabel scope env).names.lookup y = _
          rw [relabel_eq, F.scope, ← k5]; exact q
        · show (relabel scope env).names.lookup y = _
          rw [relabel_eq, F.scope, ← k5]; exact q
        · have hs : (cl.lookup y).isSome = true := by rw [← hclE]; exact closOf_some _ _ _ (.inl hfree)
          obtain ⟨c', hc'⟩ := Option.isSome_iff_exists.mp (cellsFrom_some scope.names (s₃.heap.objs.size + 1) cl y (.inr hs))
          rcases cellKind y c' (mem_of_lookup hc') with h | h
          · have := clMem y c' h
            rw [e1] at this; cases this
            exact hc'
          · exact absurd h.2 hnc
  · unfold compVals at hj
    rw [List.getElem?_append, List.length_map] at hj
    split at hj
    · rw [List.getElem?_map] at hj
      cases e : own[j]? with
      | none => rw [e] at hj; cases hj
      | some x => rw [e] at hj; cases hj
    · rw [List.getElem?_map] at hj
      cases e : qs[j - own.length]? with
      | none => rw [e] at hj; cases hj
      | some x => rw [e] at hj; cases hj


theorem Grow.trans' {hx S s S₁ s₁ S₂ s₂} (g : Grow C S s S₁ s₁) (st : Step C hx S₁ s₁ S₂ s₂) (h : ∀ b, liveIn s.heap b → hx b) : Grow C S s S₂ s₂ := Step.trans g (st.weaken h)

theorem ItOk.self {A : Around} {S : ASet} {s : Shared} {I : Addr} {wr : List Addr} {l : List VP} {Q : Value → Shared → Prop} (x : ItOk S s.heap I wr l) (h : Q (.ref I) s) : wpAny C.M A (pyIter (.ref I)) Q F0 s := by
  cases x with
  | list a b c d => exact wpAny_pyIter_listiter b h
  | range a => exact wpAny_pyIter_rangeiter a h
  | strA a => exact wpAny_pyIter_striter_ascii a h
  | strW a => exact wpAny_pyIter_striter_wide a h
  | zip n1 n2 a Z c d => exact pyIter_zipL Z.hz h

theorem comp_core {hb env A S s} {elt tgt iter : Expr} {ifs : List Expr} {scope : Scope} {pos cpos : Pos} {items l : List VP} {frC : Shape} {own : List Str} {idx : List Nat} {qs : List VP} {use : Option (Value → Sem Unit)} {Q : Value → Shared → Prop}
    (F : FrameOk C fr n hb env A S s vals) (K : compShape fr scope frC own idx = true) (hq : Idx vals idx qs) (hI : EvIt C fr n vals tgt iter items) (hT : CTurns C frC n elt tgt ifs (compVals own qs) items l) (hsz : l.length ≤ sizeLine)
    (hs : ∀ env x, foldedSetIterable iter env x = pure x)
    (hfin : ∀ S' s' D L vs, Grow C S s S' s' → s.heap.get? D = none → ¬ S' D → PL s'.heap D (List.toArray vs) → All2 S' s'.heap vs l → s.heap.get? L = none → ¬ S' L → (∃ m, s'.heap.Ns L m) → compPost C.M A F0 use Q (.ref D) L (.ok .next) s') :
    wpAny C.M A (comprehension (.ListComp elt [⟨tgt, iter, ifs, 0⟩] scope pos) scope env cpos (newList []) false (eval iter env) use) Q F0 s := by
  have hcl := (comp_frame (hB := fun _ => False) F K hq (Step.refl F.inv) (fun _ h => h.elim)).1
  have K' := K
  simp only [compShape, Bool.and_eq_true, decide_eq_true_eq] at K'
  obtain ⟨⟨⟨⟨⟨⟨⟨k1, k2⟩, _⟩, _⟩, _⟩, _⟩, _⟩, _⟩ := K'
  refine wpAny_comprehension_free (g := ⟨tgt, iter, ifs, 0⟩) (gs := []) rfl (hs env) hcl (eq_of_beq k1) (fun x hx hl => ?_) (wpAny_mono (hI hb env A S s F) (fun v s₁ w => ?_) fun _ _ z => z.elim)
  · have := List.all_eq_true.mp k2 x hx
    rw [hl] at this
    simpa using this
  refine wpAny_mono w (fun it s₂ pq => ?_) fun _ _ z => z.elim
  obtain ⟨I, wr, S₂, e, g12, hi, nn, tg⟩ := pq
  subst e
  refine wpAny_newList ?_ (by show 0 ≤ sizeLine; exact Nat.zero_le _)
  have g₃ : Grow C S₂ s₂ S₂ { s₂ with heap := s₂.heap.push { cls := .type "list", data := .seq ([] : List Value).toArray } } := grow_push' (tk := s₂.toks) g12.inv
  have D₃ : PL (s₂.heap.push { cls := .type "list", data := .seq ([] : List Value).toArray }) s₂.heap.objs.size #[] := ⟨_, _, Heap.get?_push_size _ rfl, rfl, rfl, rfl, rfl⟩
  have nDs : ¬ liveIn s.heap s₂.heap.objs.size := fun q => not_live (size_none _) (g12.alive q)
  have hi₃ : ItOk S₂ (s₂.heap.push { cls := .type "list", data := .seq ([] : List Value).toArray }) I wr items := hi.keep (fun _ h => h) (fun _ _ _ e => Heap.get?_push_of_some _ e) fun _ _ _ e => Heap.get?_push_of_some _ e
  have FC := (comp_frame (hB := plus (fun b => liveIn s.heap b ∨ b = s₂.heap.objs.size) wr) F K hq (g12.trans g₃) (fun b h => by
    rcases h with (h | h) | h
    · exact g₃.alive (g12.alive h)
    · subst h; obtain ⟨o, k, e, _⟩ := D₃; exact live_of e
    · exact (hi₃.foreign b h).live)).2
  refine newCompEnv ?_
  have kp : ∀ b o, (s₂.heap.push { cls := .type "list", data := .seq ([] : List Value).toArray }).get? b = some o → (pushCells ((s₂.heap.push { cls := .type "list", data := .seq ([] : List Value).toArray }).push { cls := .type "dict", data := .dict #[] }) scope.names).get? b = some o :=
    fun b o e => pushCells_keeps _ _ _ _ (Heap.get?_push_of_some _ e)
  have hi₄ := hi₃.keep (S' := S₂) (fun _ h => h) (fun _ _ _ e => kp _ _ e) fun _ _ _ e => kp _ _ e
  have g₄ : Grow C S₂ s₂ S₂ { s₂ with heap := pushCells ((s₂.heap.push { cls := .type "list", data := .seq ([] : List Value).toArray }).push { cls := .type "dict", data := .dict #[] }) scope.names } :=
    grow_of_kept (tk := s₂.toks) g12.inv (fun b o e => kp b o (Heap.get?_push_of_some _ e)) (fun _ h => h) fun _ h => .inl h
  have loop := hT.loop (iter := iter) (scope := scope) (pos := pos) (hx := liveIn s.heap) FC hi₄ (fun a ha => (nn a ha).1) (fun a ha => (nn a ha).2) (not_size g12.inv) nDs (D₃.keeps kp) hsz tg
  have fin := codeAny_mono loop (R' := compPost C.M A F0 use Q (.ref s₂.heap.objs.size) ((s₂.heap.push { cls := .type "list", data := .seq ([] : List Value).toArray }).objs.size)) fun r s' y => by
    cases r with
    | error e => exact y.elim
    | ok f =>
      obtain ⟨S', vs, st, a1, a2, a3, a4, a5⟩ := y
      have G : Grow C S s S' s' := (g12.trans g₄).trans' st fun b h => h
      have LL := hfin S' s' s₂.heap.objs.size _ vs G (none_of_not nDs) a1 a2 a3 (none_of_not fun q => not_live (size_none _) (g₃.alive (g12.alive q))) a4 a5
      cases use <;> exact LL
  refine codeAny_compStart_list fin (wpAny_mono (Q := fun it s' => it = .ref I ∧ s' = { s₂ with heap := pushCells ((s₂.heap.push { cls := .type "list", data := .seq ([] : List Value).toArray }).push { cls := .type "dict", data := .dict #[] }) scope.names }) (hi₄.self (C := C) (A := A) (s := { s₂ with heap := pushCells ((s₂.heap.push { cls := .type "list", data := .seq ([] : List Value).toArray }).push { cls := .type "dict", data := .dict #[] }) scope.names }) ⟨rfl, rfl⟩) (fun it s' ⟨e, e'⟩ => ?_) fun _ _ z => z.elim)
  subst e e'
  exact fin


theorem EvL.compIt {elt tgt iter : Expr} {ifs : List Expr} {scope : Scope} {pos : Pos} {items l : List VP} {frC : Shape} {own : List Str} {idx : List Nat} {qs : List VP} (K : compShape fr scope frC own idx = true) (hq : Idx vals idx qs)
    (hI : EvIt C fr n vals tgt iter items) (hT : CTurns C frC n elt tgt ifs (compVals own qs) items l) (hsz : l.length ≤ sizeLine) (hs : ∀ env x, foldedSetIterable iter env x = pure x := by intro _ _; rfl) :
    EvL C fr n vals (.ListComp elt [⟨tgt, iter, ifs, 0⟩] scope pos) l := fun hb env A S s F => by
  show wpAny C.M A (eval (.ListComp elt [⟨tgt, iter, ifs, 0⟩] scope pos) env) _ _ s
  rw [eval_ListComp]
  refine comp_core (use := none) F K hq hI hT hsz hs fun S' s' D L vs g h0 nD hD hx hL nL hm => ?_
  obtain ⟨m, hm⟩ := hm
  refine ⟨m, hm, fun h' hs' => ⟨S', ⟨g.trans' (step_sameBut (hb := liveIn s.heap) (tk := s'.toks) g.inv hs' nL (g.inv.notab_ns hm) (not_live hL)) fun _ h => h, D, vs, rfl, h0, nD, list_sameBut hD hs' (list_ne_ns hD hm), hx.keep fun a o ha e => (hs'.2 a fun q => nL (q ▸ ha)).trans e⟩⟩⟩

theorem EvL.comp {elt tgt iter : Expr} {ifs : List Expr} {scope : Scope} {pos : Pos} {p : VP} {items l : List VP} {frC : Shape} {own : List Str} {idx : List Nat} {qs : List VP} (K : compShape fr scope frC own idx = true) (hq : Idx vals idx qs)
    (hit : Ev C fr n vals iter p) (hI : IterG C p items) (hT : CTurns C frC n elt tgt ifs (compVals own qs) items l) (hsz : l.length ≤ sizeLine) (hs : ∀ env x, foldedSetIterable iter env x = pure x := by intro _ _; rfl) :
    EvL C fr n vals (.ListComp elt [⟨tgt, iter, ifs, 0⟩] scope pos) l := EvL.compIt K hq (.of hit hI) hT hsz hs


noncomputable def swapsS (fr : Shape) (t : Str) (tl cl : Nat) (scope : Scope) : Bool :=
  fr.scope.names.lookup t == some .local && tl == cl && !(scope.names.any fun (x, k) => x == t && (k == .local || k == .cell))

theorem swaps_eq {hb env A S s} {elt : Expr} {gens : List Comprehension} {scope : Scope} {pos tpos : Pos} {t : Str} {line : Nat} (F : FrameOk C fr n hb env A S s vals) :
    swapsWith (.ListComp elt gens scope pos) (some (.Name t tpos)) line env = pure (swapsS fr t tpos.line pos.line scope) := by
  have e : env.blockKind = .function := by unfold Env.blockKind; rw [F.kind]; rfl
  show (pure (env.blockKind == .function && env.kindOf t == some .local && tpos.line == pos.line && !(scope.names.any fun (n, k) => n == t && (k == .local || k == .cell))) : Sem Bool) = _
  rw [e, kindOf_eq, F.scope]
  rfl


theorem Ex1.assignCompOwn {x : Str} {pos' spos : Pos} {elt tgt iter : Expr} {ifs : List Expr} {scope : Scope} {pos : Pos} {p : VP} {items l : List VP} {frC : Shape} {own : List Str} {idx : List Nat} {qs : List VP} (i : Nat) (hi : fr.names[i]? = some x) (hnd : fr.names.Nodup) (hc : canStore fr x = true)
    (K : compShape fr scope frC own idx = true) (hq : Idx vals idx qs) (hit : Ev C fr n vals iter p) (hI : IterG C p items) (hT : CTurns C frC n elt tgt ifs (compVals own qs) items l) (hsz : l.length ≤ sizeLine) (hs : ∀ env x, foldedSetIterable iter env x = pure x := by intro _ _; rfl) :
    Ex1 C fr n vals (.Assign [.Name x pos'] (.ListComp elt [⟨tgt, iter, ifs, 0⟩] scope pos) spos) (.next (vals.set i (.own l))) := fun hb env A S s F => by
  have sw := swaps_eq (elt := elt) (gens := [⟨tgt, iter, ifs, 0⟩]) (scope := scope) (pos := pos) (tpos := pos') (t := x) (line := spos.line) F
  cases hsw : swapsS fr x pos'.line pos.line scope with
  | false =>
    rw [hsw] at sw
    exact wpAny_Assign_Name (wpAny_mono (EvL.comp K hq hit hI hT hsz hs hb env A S s F) (fun v s₁ ⟨S₁, y⟩ => F.storeOwn hi hnd hc y fun s'' st F' _ => ⟨S₁, st, F'⟩) fun _ _ z => z) sw
  | true =>
    rw [hsw] at sw
    rw [exec_Assign_Name_used _ _ _ _ sw]
    refine wpAny_bind (wpAny_standAt (wpAny_bind ?_))
    show wpAny _ A (do let _ ← comprehension (.ListComp elt [⟨tgt, iter, ifs, 0⟩] scope pos) scope env _ (newList []) false (eval iter env) (some (PySem.assign (.Name x pos') env))) _ _ s
    refine wpAny_bind (wpAny_mono (comp_core (use := some (PySem.assign (.Name x pos') env)) (Q := fun _ s' => ∃ S', Step C hb S s S' s' ∧ FrameOk C fr n hb env A S' s' (vals.set i (.own l))) F K hq (.of hit hI) hT hsz hs fun S' s' D L vs g h0 nD hD hx hL nL hm => ?_) (fun _ s' y => wpAny_pure (wpAny_pure y)) fun _ _ z => z)
    obtain ⟨m, hm⟩ := hm
    show wpAny _ A (PySem.assign (.Name x pos') env (.ref D)) _ _ _
    refine wpAny_assign_Name (F.storeOwn hi hnd hc ⟨g, D, vs, rfl, h0, nD, hD, hx⟩ fun s'' st F' sa => ?_)
    have hL' : env.locals ≠ L := by
      rintro rfl
      obtain ⟨_, o, _, _, ho, _⟩ := F.ns
      rw [hL] at ho; cases ho
    obtain ⟨a, hsa, ha⟩ := sa
    have naL : L ≠ a := by
      rintro rfl
      rcases ha with q | ⟨y, q⟩
      · exact hL' q.symm
      · obtain ⟨v, z⟩ := (F.grow g).cells y L q
        exact ns_ne_cell hm z rfl
    have hm'' := hm.sameBut hsa naL
    refine ⟨m, hm'', fun h' hs' => ⟨S', st.trans (step_sameBut (tk := s''.toks) F'.inv hs' nL (F'.inv.notab_ns hm'') fun q => not_live hL (F.alive L q)), ?_⟩⟩
    exact F'.sameBut (tk := s''.toks) hs' nL (F'.inv.notab_ns hm'') (Ne.symm hL') (fun v z => ns_ne_cell hm'' z rfl) (fun b its _ z => list_ne_ns z hm'') fun q => absurd (F.alive L q) (not_live hL)

end
end Mine

set_option tactic.hygienic false
namespace Mine
open PySem PySem.W PyProof.Rows


noncomputable def vS (l : List Nat) : VP := vStr ⟨l.toArray⟩
theorem str_of {l : List Nat} {S : ASet} {h : Heap} {v : Value} (x : (vS l).P S h v) : ∃ t, v = .str ⟨l.toArray⟩ t := x
theorem int_of {i : Int} {S : ASet} {h : Heap} {v : Value} (x : (vInt i).P S h v) : ∃ t, v = .int i t := x

section
variable {C : Cx} {fr : Shape} {n : Nat} {vals vals' : List Slot}

theorem Ev.s {x : Str} {k : Nat} {pos : Pos} (l : List Nat) (h : x = ⟨l.toArray⟩) : Ev C fr n vals (.Constant (.str x) k pos) (vS l) := by subst h; exact Ev.str


theorem BinG.add {a b : Int} : BinG C .Add (vInt a) (vInt b) (vInt (a + b)) := fun A S s x y I _ hx hy => by
  obtain ⟨t, rfl⟩ := int_of hx; obtain ⟨u, rfl⟩ := int_of hy
  exact P.add_int ⟨S, Grow.tok I _, _, rfl⟩
theorem BinG.sub {a b : Int} : BinG C .Sub (vInt a) (vInt b) (vInt (a - b)) := fun A S s x y I _ hx hy => by
  obtain ⟨t, rfl⟩ := int_of hx; obtain ⟨u, rfl⟩ := int_of hy
  exact P.sub_int ⟨S, Grow.tok I _, _, rfl⟩
theorem intBits_le {a : Int} (h : a.natAbs < 2 ^ 40) : Builtin.Int.intBits a ≤ 64 := by
  unfold Builtin.Int.intBits
  split
  · lia
  · have : a.natAbs.log2 < 40 := (Nat.log2_lt (by simp_all)).mpr h
    lia
theorem BinG.mul {a b : Int} (ha : a.natAbs < 2 ^ 40) : BinG C .Mult (vInt a) (vInt b) (vInt (a * b)) := fun A S s x y I _ hx hy => by
  obtain ⟨t, rfl⟩ := int_of hx; obtain ⟨u, rfl⟩ := int_of hy
  exact P.mul_int ⟨S, Grow.tok I _, _, rfl⟩ (.of_left (intBits_le ha))
theorem BinG.div {a b : Int} (hb : 0 < b) (hs : b < 1073741824) : BinG C .FloorDiv (vInt a) (vInt b) (vInt (a / b)) := fun A S s x y I _ hx hy => by
  obtain ⟨t, rfl⟩ := int_of hx; obtain ⟨u, rfl⟩ := int_of hy
  refine floordiv_int (by lia) ?_ (.inl (PyProof.noPylong_small (by lia)))
  rw [Int.fdiv_eq_ediv_of_nonneg _ (by lia)]
  exact ⟨S, Grow.tok I _, _, rfl⟩
theorem BinG.mod {a b : Int} (hb : 0 < b) : BinG C .Mod (vInt a) (vInt b) (vInt (a % b)) := fun A S s x y I _ hx hy => by
  obtain ⟨t, rfl⟩ := int_of hx; obtain ⟨u, rfl⟩ := int_of hy
  refine mod_int' (by lia) ?_
  rw [Int.fmod_eq_emod_of_nonneg _ (by lia)]
  exact ⟨S, Grow.tok I _, _, rfl⟩

theorem CmpG.lt {a b : Int} : CmpG C .Lt (vInt a) (vInt b) (decide (a < b)) := fun A S s x y I _ hx hy => by
  obtain ⟨t, rfl⟩ := int_of hx; obtain ⟨u, rfl⟩ := int_of hy
  exact P.lt_int ⟨S, .refl I, rfl⟩
theorem CmpG.le {a b : Int} : CmpG C .LtE (vInt a) (vInt b) (decide (a ≤ b)) := fun A S s x y I _ hx hy => by
  obtain ⟨t, rfl⟩ := int_of hx; obtain ⟨u, rfl⟩ := int_of hy
  exact P.le_int ⟨S, .refl I, rfl⟩
theorem CmpG.ge {a b : Int} : CmpG C .GtE (vInt a) (vInt b) (decide (a ≥ b)) := fun A S s x y I _ hx hy => by
  obtain ⟨t, rfl⟩ := int_of hx; obtain ⟨u, rfl⟩ := int_of hy
  exact P.ge_int ⟨S, .refl I, rfl⟩
theorem CmpG.eqI {a b : Int} : CmpG C .Eq (vInt a) (vInt b) (decide (a = b)) := fun A S s x y I _ hx hy => by
  obtain ⟨t, rfl⟩ := int_of hx; obtain ⟨u, rfl⟩ := int_of hy
  exact P.eq_int ⟨S, .refl I, rfl⟩
theorem CmpG.neI {a b : Int} : CmpG C .NotEq (vInt a) (vInt b) (decide (a ≠ b)) := fun A S s x y I _ hx hy => by
  obtain ⟨t, rfl⟩ := int_of hx; obtain ⟨u, rfl⟩ := int_of hy
  refine P.ne_int ⟨S, .refl I, ?_⟩
  show Value.bool (a != b) = Value.bool (decide (a ≠ b))
  congr 1
  by_cases h : a = b <;> simp [h]


theorem CmpG.eqS {a b : List Nat} : CmpG C .Eq (vS a) (vS b) (decide (a = b)) := fun A S s x y I _ hx hy => by
  obtain ⟨t, rfl⟩ := str_of hx; obtain ⟨u, rfl⟩ := str_of hy
  refine P.eq_str ⟨S, .refl I, ?_⟩
  show Value.bool (a == b) = Value.bool (decide (a = b))
  congr 1
  by_cases h : a = b <;> simp [h]
theorem CmpG.neS {a b : List Nat} : CmpG C .NotEq (vS a) (vS b) (decide (a ≠ b)) := fun A S s x y I _ hx hy => by
  obtain ⟨t, rfl⟩ := str_of hx; obtain ⟨u, rfl⟩ := str_of hy
  refine P.ne_str ⟨S, .refl I, ?_⟩
  show Value.bool (a != b) = Value.bool (decide (a ≠ b))
  congr 1
  by_cases h : a = b <;> simp [h]
theorem BinG.addS {a b : List Nat} (hsz : a.length + b.length ≤ sizeLine) : BinG C .Add (vS a) (vS b) (vS (a ++ b)) := fun A S s x y I _ hx hy => by
  obtain ⟨t, rfl⟩ := str_of hx; obtain ⟨u, rfl⟩ := str_of hy
  refine P.add_str ?_
  split
  · rename_i h
    have h : a = [] := by simpa [Str.length] using h
    subst h
    exact ⟨S, .refl I, u, rfl⟩
  · split
    · rename_i h
      have h : b = [] := by simpa [Str.length] using h
      subst h
      exact ⟨S, .refl I, t, by simp⟩
    · refine ⟨?_, S, Grow.tok I _, s.toks, ?_⟩
      · show (Str.length _) ≤ _
        rw [Str.length_append]; simpa [Str.length] using hsz
      · show Value.str (⟨a.toArray⟩ ++ ⟨b.toArray⟩) _ = Value.str ⟨(a ++ b).toArray⟩ _
        congr 1
        apply Str.ext'
        simp [Str.cps_append]


theorem CmpG.isNone : CmpG C .Is vNone vNone true := fun A S s x y I _ hx hy => by
  cases (show x = .none from hx); cases (show y = .none from hy)
  exact is_none ⟨S, .refl I, rfl⟩
theorem CmpG.isNotNone : CmpG C .IsNot vNone vNone false := fun A S s x y I _ hx hy => by
  cases (show x = .none from hx); cases (show y = .none from hy)
  exact isNot_none ⟨S, .refl I, rfl⟩

noncomputable def VP.NotNone (p : VP) : Prop := ∀ S h v, p.P S h v → v ≠ .none
theorem CmpG.isNone' {p : VP} (hp : p.NotNone) : CmpG C .Is p vNone false := fun A S s x y I _ hx hy => by
  cases (show y = .none from hy)
  refine is_none ⟨S, .refl I, ?_⟩
  show Value.bool (x == .none) = _
  rw [show (x == Value.none) = false from beq_eq_false_iff_ne.mpr (hp _ _ _ hx)]

noncomputable def VP.Reads (p : VP) (d : PyData) : Prop := ∀ S h v, p.P S h v → ∃ as, PySem.Reads h v d as
theorem reads_bool (b : Bool) : (vBool b).Reads (.bool b) := fun _ _ _ e => by cases (show _ = Value.bool b from e); exact ⟨_, .bool b⟩
theorem reads_int (i : Int) : (vInt i).Reads (.int i) := fun _ _ _ ⟨_, e⟩ => by cases e; exact ⟨_, .int _ _⟩
noncomputable def ReadsL : List VP → List PyData → Prop
  | [], [] => True
  | p :: ps, d :: ds => p.Reads d ∧ ReadsL ps ds
  | _, _ => False
theorem ReadsL.all {S : ASet} {h : Heap} : ∀ {ps : List VP} {ds : List PyData} {vs : List Value}, ReadsL ps ds → All2 S h vs ps → ∃ as, ReadsAll h vs ds as
  | [], [], [], _, _ => ⟨_, .nil⟩
  | p :: ps, d :: ds, v :: vs, ⟨a, b⟩, ⟨x, y⟩ => by
    obtain ⟨as, r⟩ := a _ _ _ x
    obtain ⟨bs, q⟩ := b.all y
    exact ⟨_, .cons r q⟩
  | [], [], _ :: _, _, x => x.elim
  | _ :: _, _ :: _, [], _, x => x.elim
  | [], _ :: _, _, x, _ => x.elim
  | _ :: _, [], _, x, _ => x.elim
theorem reads_tup {ps : List VP} {ds : List PyData} (h : ReadsL ps ds) : (vTup ps).Reads (.tuple ds) := fun S hp v pq => by
  obtain ⟨a, vs, e, _, ⟨o, ho, hc, k, hd⟩, hx⟩ := pq
  obtain ⟨as, r⟩ := h.all hx
  subst e
  exact ⟨_, .tuple ho hc hd (by simpa using r)⟩
theorem reads_lst {ps : List VP} {ds : List PyData} (h : ReadsL ps ds) : (vLst ps).Reads (.list ds) := fun S hp v pq => by
  obtain ⟨a, vs, e, _, ⟨o, k, ho, hc, _, hd, _⟩, hx⟩ := pq
  obtain ⟨as, r⟩ := h.all hx
  subst e
  exact ⟨_, .list ho hc hd (by simpa using r)⟩
theorem readsL_map {α : Type} (f : α → VP) (g : α → PyData) (h : ∀ a, (f a).Reads (g a)) : ∀ l : List α, ReadsL (l.map f) (l.map g)
  | [] => trivial
  | a :: l => ⟨h a, readsL_map f g h l⟩

theorem CmpG.eqD {p q : VP} {d e : PyData} (hp : p.Reads d) (hq : q.Reads e) (hd : SeqAt.shaped d = true) (he : SeqAt.shaped e = true) : CmpG C .Eq p q (PyData.eqv d e) := fun A S s x y I hA hx hy => by
  obtain ⟨as, ra⟩ := hp _ _ _ hx
  obtain ⟨bs, rb⟩ := hq _ _ _ hy
  exact SeqAt.compareEq_shaped ra rb hd he (by have := hA.units; lia) ⟨S, .refl I, rfl⟩
theorem CmpG.neD {p q : VP} {d e : PyData} (hp : p.Reads d) (hq : q.Reads e) (hd : SeqAt.shaped d = true) (he : SeqAt.shaped e = true) : CmpG C .NotEq p q (!PyData.eqv d e) := fun A S s x y I hA hx hy => by
  obtain ⟨as, ra⟩ := hp _ _ _ hx
  obtain ⟨bs, rb⟩ := hq _ _ _ hy
  exact SeqAt.compareNe_shaped ra rb hd he (by have := hA.units; lia) ⟨S, .refl I, rfl⟩

end
end Mine

set_option tactic.hygienic true
namespace Mine
open PySem PySem.W PyProof.Rows


noncomputable def splitOn (c : Nat) : List Nat → List (List Nat)
  | [] => [[]]
  | x :: r => if x = c then [] :: splitOn c r else match splitOn c r with
    | [] => [[x]]
    | p :: ps => (x :: p) :: ps
noncomputable def joinOn (c : Nat) : List (List Nat) → List Nat
  | [] => []
  | [p] => p
  | p :: q :: ps => p ++ c :: joinOn c (q :: ps)

theorem splitOn_ne (c : Nat) : ∀ l, splitOn c l ≠ []
  | [] => by simp [splitOn]
  | x :: r => by
    unfold splitOn
    split
    · simp
    · split <;> simp
theorem splitOn_free {c : Nat} : ∀ {p : List Nat}, c ∉ p → splitOn c p = [p]
  | [], _ => rfl
  | x :: r, h => by
    have hx : x ≠ c := fun e => h (e ▸ .head _)
    unfold splitOn
    rw [if_neg hx, splitOn_free (p := r) fun q => h (.tail _ q)]
theorem splitOn_append {c : Nat} : ∀ {p : List Nat} (r : List Nat), c ∉ p → splitOn c (p ++ c :: r) = p :: splitOn c r
  | [], r, _ => by simp [splitOn]
  | x :: p, r, h => by
    have hx : x ≠ c := fun e => h (e ▸ .head _)
    rw [List.cons_append, splitOn, if_neg hx, splitOn_append r fun q => h (.tail _ q)]
theorem splitOn_joinOn {c : Nat} : ∀ {L : List (List Nat)}, L ≠ [] → (∀ p ∈ L, c ∉ p) → splitOn c (joinOn c L) = L
  | [], h, _ => absurd rfl h
  | [p], _, h => splitOn_free (h p (.head _))
  | p :: q :: ps, _, h => by
    rw [joinOn, splitOn_append _ (h p (.head _)), splitOn_joinOn (by simp) fun x hx => h x (.tail _ hx)]
theorem splitOn_length (c : Nat) : ∀ l, (splitOn c l).length ≤ l.length + 1
  | [] => by simp [splitOn]
  | x :: r => by
    have ih := splitOn_length c r
    unfold splitOn
    split
    · simp; lia
    · split
      · simp
      · rename_i p ps e
        rw [e] at ih
        simp at ih ⊢; lia

theorem cps_join (c : Nat) : ∀ (L : List Str), (Str.join ⟨#[c]⟩ L).cps.toList = joinOn c (L.map fun x => x.cps.toList)
  | [] => by
    show Str.empty.cps.toList = []
    rfl
  | [x] => rfl
  | x :: y :: r => by
    show (x ++ ⟨#[c]⟩ ++ Str.join ⟨#[c]⟩ (y :: r)).cps.toList = _
    rw [Str.cps_append, Str.cps_append]
    have ih := cps_join c (y :: r)
    simp only [Array.toList_append, ih, List.map_cons, joinOn]
    simp

theorem split_eq (c : Nat) (l : List Nat) : (Txt.split ⟨l.toArray⟩ ⟨#[c]⟩).map (fun x => x.cps.toList) = splitOn c l := by
  have h1 := StrLaws.join_split ⟨l.toArray⟩ ⟨#[c]⟩
  have h2 := StrLaws.split_free ⟨l.toArray⟩ c
  have h3 := cps_join c (Txt.split ⟨l.toArray⟩ ⟨#[c]⟩)
  rw [h1] at h3
  have h3 : l = joinOn c ((Txt.split ⟨l.toArray⟩ ⟨#[c]⟩).map fun x => x.cps.toList) := by simpa using h3
  have hne : (Txt.split ⟨l.toArray⟩ ⟨#[c]⟩).map (fun x => x.cps.toList) ≠ [] := by
    intro e
    rw [e] at h3
    have h3 : l = [] := h3
    subst h3
    have : Txt.split ⟨([] : List Nat).toArray⟩ ⟨#[c]⟩ = [⟨([] : List Nat).toArray⟩] := by
      unfold Txt.split
      rw [if_pos (by simp [Str.length])]
    rw [this] at e
    cases e
  conv => rhs; rw [h3]
  exact (splitOn_joinOn hne fun p hp => by
    obtain ⟨x, hx, rfl⟩ := List.mem_map.mp hp
    exact h2 x hx).symm

theorem split_eq' (c : Nat) (l : List Nat) : Txt.split ⟨l.toArray⟩ ⟨#[c]⟩ = (splitOn c l).map fun p => ⟨p.toArray⟩ := by
  rw [← split_eq, List.map_map]
  conv => lhs; rw [← List.map_id (Txt.split ⟨l.toArray⟩ ⟨#[c]⟩)]
  apply List.map_congr_left
  intro x _
  simp

section
variable {C : Cx} {fr : Shape} {n : Nat} {vals vals' : List Slot}

theorem all2_strs {S : ASet} {h : Heap} : ∀ (k : Nat) (L : List (List Nat)), All2 S h (strValues (numbered k (L.map fun p => (⟨p.toArray⟩ : Str)))) (L.map vS)
  | _, [] => trivial
  | k, p :: L => ⟨⟨k, rfl⟩, all2_strs (k + 1) L⟩

theorem All2.one {S : ASet} {h : Heap} {vs : List Value} {p : VP} (x : All2 S h vs [p]) : ∃ a, vs = [a] ∧ p.P S h a := by
  cases vs with
  | nil => exact x.elim
  | cons a vs =>
    cases vs with
    | nil => exact ⟨a, rfl, x.1⟩
    | cons _ _ => exact x.2.elim
theorem All2.two {S : ASet} {h : Heap} {vs : List Value} {p q : VP} (x : All2 S h vs [p, q]) : ∃ a b, vs = [a, b] ∧ p.P S h a ∧ q.P S h b := by
  cases vs with
  | nil => exact x.elim
  | cons a vs =>
    obtain ⟨b, rfl, h⟩ := All2.one x.2
    exact ⟨a, b, rfl, x.1, h⟩
theorem All2.three {S : ASet} {h : Heap} {vs : List Value} {p q r : VP} (x : All2 S h vs [p, q, r]) : ∃ a b c, vs = [a, b, c] ∧ p.P S h a ∧ q.P S h b ∧ r.P S h c := by
  cases vs with
  | nil => exact x.elim
  | cons a vs =>
    obtain ⟨b, c, rfl, h⟩ := All2.two x.2
    exact ⟨a, b, c, rfl, x.1, h⟩
theorem FnG.split {c : Nat} {l : List Nat} (hsz : l.length < sizeLine) : FnG C n (.builtin "str.split") [vS l, vS [c]] (vLst ((splitOn c l).map vS)) := fun A S s vs I hA hx => by
    obtain ⟨x, y, rfl, hx, hy⟩ := hx.two
    obtain ⟨t, rfl⟩ := str_of hx; obtain ⟨u, rfl⟩ := str_of hy
    have e := split_eq' c l
    have hlen := splitOn_length c l
    unfold Txt.split at e
    cases h1 : (decide ((⟨l.toArray⟩ : Str).length < (⟨[c].toArray⟩ : Str).length) || decide (Builtin.Str.strKind ⟨l.toArray⟩ < Builtin.Str.strKind ⟨[c].toArray⟩)) with
    | true =>
      rw [if_pos h1] at e
      refine call_meets F.slot_str_split (typeIs_str _ _ _) F.entry_str_split (F.args_str_split_2 _ _) (meets_str_split_cannot_occur _ _ t u h1) ?_
      have hl : splitOn c l = [l] := by
        cases q : splitOn c l with
        | nil => exact absurd q (splitOn_ne c l)
        | cons p ps =>
          rw [q] at e
          simp at e
          rw [e.1, e.2]
      rw [hl]
      exact ⟨_, grow_push (tk := s.toks) I rfl, pushed_list (vs := [_]) I ⟨⟨t, rfl⟩, trivial⟩⟩
    | false =>
      rw [if_neg (by rw [h1]; decide)] at e
      cases hf : (Builtin.Str.occurrences ⟨l.toArray⟩ ⟨[c].toArray⟩ 0 (⟨l.toArray⟩ : Str).length ((⟨l.toArray⟩ : Str).length + 1)).isEmpty with
      | true =>
        rw [if_pos hf] at e
        refine call_meets F.slot_str_split (typeIs_str _ _ _) F.entry_str_split (F.args_str_split_2 _ _) (meets_str_split_not_found _ _ t u h1 rfl hf) ?_
        have hl : splitOn c l = [l] := by
          cases q : splitOn c l with
          | nil => exact absurd q (splitOn_ne c l)
          | cons p ps =>
            rw [q] at e
            simp at e
            rw [e.1, e.2]
        rw [hl]
        exact ⟨_, grow_push (tk := s.toks) I rfl, pushed_list (vs := [_]) I ⟨⟨t, rfl⟩, trivial⟩⟩
      | false =>
        rw [if_neg (by rw [hf]; decide)] at e
        have e' : Builtin.Str.partsBetween ⟨l.toArray⟩ (Builtin.Str.occurrences ⟨l.toArray⟩ ⟨[c].toArray⟩ 0 (⟨l.toArray⟩ : Str).length ((⟨l.toArray⟩ : Str).length + 1)) (⟨[c].toArray⟩ : Str).length = (splitOn c l).map fun p => ⟨p.toArray⟩ := e
        refine call_meets F.slot_str_split (typeIs_str _ _ _) F.entry_str_split (F.args_str_split_2 _ _) (meets_str_split_sep _ _ t u h1 rfl hf (by show l.toArray.size ≤ _; simp; lia) (by rw [e']; simp; lia)) ?_
        show wants _ _ _ _
        rw [e', strsFrom_eq]
        exact ⟨_, grow_push I rfl, pushed_list I (all2_strs _ _)⟩


theorem all2_S {S : ASet} {h : Heap} : ∀ {vs : List Value} {L : List (List Nat)}, All2 S h vs (L.map vS) → ∃ l : List (Str × Tok), vs = strValues l ∧ l.map (·.1) = L.map fun p => ⟨p.toArray⟩
  | [], [], _ => ⟨[], rfl, rfl⟩
  | v :: vs, p :: L, ⟨⟨t, e⟩, b⟩ => by
    obtain ⟨l, h1, h2⟩ := all2_S b
    exact ⟨(⟨p.toArray⟩, t) :: l, by rw [e, h1]; rfl, by simp [h2]⟩
  | [], _ :: _, x => x.elim
  | _ :: _, [], x => x.elim

theorem joinTotal_le (sep : Str) : ∀ (L : List Str) (k : Nat), L.foldl (fun a x => a + x.length + sep.length) k = k + (L.map (·.length)).sum + L.length * sep.length
  | [], k => by simp
  | x :: L, k => by
    rw [List.foldl_cons, joinTotal_le sep L, List.map_cons, List.sum_cons, List.length_cons, Nat.add_mul, Nat.one_mul]
    simp only [Nat.add_assoc, Nat.add_comm, Nat.add_left_comm]

theorem joinOk_of {c : Nat} {L : List (List Nat)} (hsz : (L.map (·.length)).sum + L.length ≤ sizeLine) : JoinOk ⟨[c].toArray⟩ (L.map fun p => (⟨p.toArray⟩ : Str)) = true := by
  have e := joinTotal_le ⟨[c].toArray⟩ (L.map fun p => (⟨p.toArray⟩ : Str)) 0
  have e2 : (L.map fun p => (⟨p.toArray⟩ : Str)).toArray.foldl (fun a x => a + x.length + (⟨[c].toArray⟩ : Str).length) 0 = (L.map (·.length)).sum + L.length := by
    rw [List.foldl_toArray, e]
    simp [Str.length, List.map_map, Function.comp_def]
  unfold JoinOk
  rw [e2]
  unfold Builtin.Str.tooLong
  rw [Bool.not_eq_true', decide_eq_false_iff_not]
  lia
theorem join_eq (c : Nat) (L : List (List Nat)) : Txt.join ⟨[c].toArray⟩ (L.map fun p => (⟨p.toArray⟩ : Str)) = ⟨(joinOn c L).toArray⟩ := by
  have h0 : Txt.join ⟨[c].toArray⟩ (L.map fun p => (⟨p.toArray⟩ : Str)) = Str.join ⟨[c].toArray⟩ (L.map fun p => (⟨p.toArray⟩ : Str)) := StrLaws.glued_eq_join _ _
  rw [h0]
  have := cps_join c (L.map fun p => (⟨p.toArray⟩ : Str))
  rw [List.map_map] at this
  have e : (fun x : Str => x.cps.toList) ∘ (fun p : List Nat => (⟨p.toArray⟩ : Str)) = id := by funext p; simp
  rw [e, List.map_id] at this
  apply Str.ext'
  apply Array.toList_inj.mp
  exact this

theorem FnG.join {c : Nat} {L : List (List Nat)} (hsz : (L.map (·.length)).sum + L.length ≤ sizeLine) : FnG C n (.builtin "str.join") [vS [c], vLst (L.map vS)] (vS (joinOn c L)) := fun A S s vs I hA hx => by
  obtain ⟨x, y, rfl, hx, hy⟩ := hx.two
  obtain ⟨t, rfl⟩ := str_of hx
  obtain ⟨a, ws, rfl, ha, hl, hw⟩ := hy
  obtain ⟨l, rfl, h2⟩ := all2_S hw
  exact SC.join hl.isList h2 (joinOk_of hsz) fun t' k => ⟨S, Grow.tok I k, t', by rw [join_eq]⟩

end
end Mine

set_option tactic.hygienic true
namespace Mine
open PySem PySem.W PyProof.Rows


noncomputable def cut {α : Type} (l : List α) (lo hi : Option Int) : List α :=
  (l.drop (lo.elim 0 (clipAt l.length))).take (hi.elim l.length (clipAt l.length) - lo.elim 0 (clipAt l.length))

section
variable {C : Cx} {fr : Shape} {n : Nat} {vals vals' : List Slot}

theorem subscripted_ops (slice : Expr) (o i : Value) : ∃ ops, subscripted slice false o i = operate ops (getItem o i) := by
  cases slice <;> first | exact ⟨_, rfl⟩ | (rename_i a b c d; cases c <;> exact ⟨_, rfl⟩)


noncomputable def SubG (C : Cx) (p q r : VP) : Prop :=
  ∀ A S s o i, Inv C S s → AOk 0 A → p.P S s.heap o → q.P S s.heap i → (∃ T id, s.TypeIs o T ∧ typeLookup (.type T) "__getitem__" = pure (some (.builtin id))) ∧ Gives C A (getItem o i) S s r

theorem Ev.sub {value slice : Expr} {pos : Pos} {p q r : VP} (hv : Ev C fr n vals value p) (hi : Ev C fr n vals slice q) (h : SubG C p q r) : Ev C fr n vals (.Subscript value slice pos) r := fun hb env A S s F =>
  Subscript_ (Gives.seq (q := p) (hv hb env A S s F) fun o S₁ s₁ g₁ x => Gives.seq (q := p) (hi hb env A S₁ s₁ (F.grow g₁)) fun i S₂ s₂ g₂ y => by
    obtain ⟨⟨T, id, hT, hl⟩, hg⟩ := h A S₂ s₂ o i g₂.inv (F.around.le (Nat.zero_le _)) (p.mono g₂.sub (p.keep (g₂.keeps g₁.inv) x)) y
    obtain ⟨ops, ho⟩ := subscripted_ops slice o i
    exact tail_any hT hl (wpAny_mono hg (fun _ _ ⟨S₃, g₃, z⟩ => ⟨S₃, (g₁.trans g₂).trans g₃, z⟩) fun _ _ z => z) ho)

theorem SubG.item {l : List VP} {i : Int} {p : VP} (h0 : 0 ≤ i) (hs : i < 2 ^ 63) (hp : l[i.toNat]? = some p) : SubG C (vLst l) (vInt i) p := fun A S s o v I _ ho hv => by
  obtain ⟨a, vs, rfl, ha, hl, hx⟩ := ho
  obtain ⟨t, rfl⟩ := int_of hv
  obtain ⟨w, hw, hpw⟩ := hx.get hp
  exact ⟨⟨_, _, hl.isList.typeIs, slot_list_getitem.lookup⟩, wpAny_getItem_list hl.isList h0 hs (by simpa using hw) ⟨S, .refl I, hpw⟩⟩
theorem SubG.itemNeg {l : List VP} {i : Int} {p : VP} (h0 : i < 0) (h1 : -(l.length : Int) ≤ i) (hs : -(2 ^ 63) ≤ i) (hp : l[(i + l.length).toNat]? = some p) : SubG C (vLst l) (vInt i) p := fun A S s o v I _ ho hv => by
  obtain ⟨a, vs, rfl, ha, hl, hx⟩ := ho
  obtain ⟨t, rfl⟩ := int_of hv
  obtain ⟨w, hw, hpw⟩ := hx.get hp
  exact ⟨⟨_, _, hl.isList.typeIs, slot_list_getitem.lookup⟩, wpAny_getItem_list_neg hl.isList h0 (by simpa [hx.length] using h1) hs (by simpa [hx.length] using hw) ⟨S, .refl I, hpw⟩⟩
theorem seqIndex_pos {i : Int} {len : Nat} (h0 : 0 ≤ i) (h : i.toNat < len) : seqIndex? i len = some i.toNat := by
  have h1 : ¬ i < 0 := Int.not_lt.mpr h0
  have h2 : i < len := (Int.toNat_lt h0).mp h
  unfold seqIndex?
  dsimp only
  rw [if_neg h1, decide_eq_true h0, decide_eq_true h2]
  rfl
theorem SubG.tup {l : List VP} {i : Int} {p : VP} (h0 : 0 ≤ i) (hs : i < 2 ^ 63) (hp : l[i.toNat]? = some p) : SubG C (vTup l) (vInt i) p := fun A S s o v I _ ho hv => by
  obtain ⟨a, vs, rfl, ha, hl, hx⟩ := ho
  obtain ⟨t, rfl⟩ := int_of hv
  obtain ⟨w, hw, hpw⟩ := hx.get hp
  have hlt : i.toNat < vs.length := (List.getElem?_eq_some_iff.mp hw).1
  refine ⟨⟨_, _, hl.typeIs, slot_tuple_getitem.lookup⟩, getItem_tuple hl (Int.le_trans (by decide) h0) hs (j := i.toNat) ?_ (by simpa using hw) ⟨S, .refl I, hpw⟩⟩
  exact seqIndex_pos h0 (by simpa using hlt)
theorem SubG.sign {l : List Nat} {i : Int} {c : Nat} (h0 : 0 ≤ i) (hs : i < 2 ^ 63) (hp : l[i.toNat]? = some c) : SubG C (vS l) (vInt i) (vS [c]) := fun A S s o v I _ ho hv => by
  obtain ⟨t, rfl⟩ := str_of ho
  obtain ⟨u, rfl⟩ := int_of hv
  have hlt : i.toNat < l.length := (List.getElem?_eq_some_iff.mp hp).1
  refine ⟨⟨_, _, typeIs_str _ _ _, F.slot_str_getitem.lookup⟩, P.getItem_str (c := c) ?_ ?_ ⟨S, Grow.tok I _, _, rfl⟩⟩
  · simp
    exact ⟨Int.le_trans (by decide) h0, hs⟩
  · rw [seqIndex_pos (len := (⟨l.toArray⟩ : Str).length) h0 hlt]
    simpa using hp


noncomputable def vSlice (lo hi : Option Int) : VP where
  P := fun S h v => ∃ a vl vu, v = .ref a ∧ S a ∧ h.IsSliceOf a vl vu .none ∧ IsPart vl lo ∧ IsPart vu hi
  mono := fun hs x => by obtain ⟨a, vl, vu, e, ha, r⟩ := x; exact ⟨a, vl, vu, e, hs _ ha, r⟩
  keep := fun hk x => by obtain ⟨a, vl, vu, e, ha, ⟨o, ho, r⟩, q⟩ := x; exact ⟨a, vl, vu, e, ha, ⟨o, hk _ _ ha ho, r⟩, q⟩


noncomputable def EvPart (C : Cx) (fr : Shape) (n : Nat) (vals : List Slot) (e : Option Expr) (b : Option Int) : Prop :=
  (e = none ∧ b = none) ∨ ∃ x i, e = some x ∧ b = some i ∧ Ev C fr n vals x (vInt i)
theorem EvPart.none : EvPart C fr n vals none none := .inl ⟨rfl, rfl⟩
theorem EvPart.some {x : Expr} {i : Int} (h : Ev C fr n vals x (vInt i)) : EvPart C fr n vals (some x) (some i) := .inr ⟨x, i, rfl, rfl, h⟩
theorem EvPart.run {hb env A S s} {e : Option Expr} {b : Option Int} (h : EvPart C fr n vals e b) (F : FrameOk C fr n hb env A S s vals) : wpAny C.M A (evalPart e env) (fun v s' => IsPart v b ∧ ∃ S', Grow C S s S' s') F0 s := by
  rcases h with ⟨rfl, rfl⟩ | ⟨x, i, rfl, rfl, h⟩
  · exact wpAny_evalPart_none ⟨.none, S, .refl F.inv⟩
  · exact wpAny_evalPart_some (wpAny_mono (h hb env A S s F) (fun v s' ⟨S', g, t, e⟩ => by subst e; exact ⟨.int _ _, S', g⟩) fun _ _ z => z)

theorem Ev.slice {lower upper : Option Expr} {pos : Pos} {lo hi : Option Int} (hl : EvPart C fr n vals lower lo) (hu : EvPart C fr n vals upper hi) : Ev C fr n vals (.Slice lower upper Option.none pos) (vSlice lo hi) := fun hb env A S s F =>
  wpAny_Slice (wpAny_mono (hl.run F) (fun vl s₁ ⟨pl, S₁, g₁⟩ => wpAny_mono (hu.run (F.grow g₁)) (fun vu s₂ ⟨pu, S₂, g₂⟩ => wpAny_evalPart_none
    ⟨_, (g₁.trans g₂).trans (grow_push (tk := s₂.toks) g₂.inv rfl), _, vl, vu, rfl, .inr rfl, Heap.IsSliceOf.new .., pl, pu⟩) fun _ _ z => z) fun _ _ z => z)

theorem SubG.cutL {l : List VP} {lo hi : Option Int} (hsz : l.length ≤ sizeLine) : SubG C (vLst l) (vSlice lo hi) (vLst (cut l lo hi)) := fun A S s o v I _ ho hv => by
  obtain ⟨a, vs, rfl, ha, hl, hx⟩ := ho
  obtain ⟨b, vl, vu, rfl, hb, hsl, pl, pu⟩ := hv
  refine ⟨⟨_, _, hl.isList.typeIs, slot_list_getitem.lookup⟩, wpAny_getItem_list_slice hl.isList hsl pl pu .none (by simp) ?_ (by rw [List.size_toArray, hx.length]; exact hsz)⟩
  have e : slicePick vs.toArray lo hi none = (cut vs lo hi).toArray := by rw [slicePick_plain]; simp [cut]
  rw [e]
  have hc : All2 S s.heap (cut vs lo hi) (cut l lo hi) := by
    unfold cut
    rw [hx.length]
    exact (hx.drop _).take _
  exact ⟨_, grow_push (tk := s.toks) I rfl, pushed_list I hc⟩

theorem strSlice_eq (lo hi : Option Int) (l : List Nat) : (Builtin.Str.strSliceIndices lo hi 1 l.length).filterMap (l[·]?) = cut l lo hi := by
  have e : Builtin.Str.strSliceIndices lo hi 1 l.length = sliceRange (sliceBounds lo hi none l.length).1 (sliceBounds lo hi none l.length).2.1 (sliceBounds lo hi none l.length).2.2 := rfl
  rw [e, sliceBounds_plain]
  simp only [sliceRange_one]
  have := pick_run l.toArray (lo.elim 0 (clipAt l.length)) (hi.elim l.length (clipAt l.length) - lo.elim 0 (clipAt l.length))
  simpa [cut] using this

theorem clipAt_le (k : Nat) (i : Int) : clipAt k i ≤ k :=
  Int.ofNat_le.mp (by rw [clipAt_cast]; exact Int.max_le.mpr ⟨Int.natCast_nonneg _, Int.min_le_right _ _⟩)
theorem strSlice_whole {lo hi : Option Int} {l : List Nat} (h : (Builtin.Str.strSliceIndices lo hi 1 l.length).length = l.length) : cut l lo hi = l := by
  have e : Builtin.Str.strSliceIndices lo hi 1 l.length = sliceRange (sliceBounds lo hi none l.length).1 (sliceBounds lo hi none l.length).2.1 (sliceBounds lo hi none l.length).2.2 := rfl
  rw [e, sliceBounds_plain] at h
  simp only [sliceRange_one, List.length_map, List.length_range] at h
  unfold cut
  have hb : hi.elim l.length (clipAt l.length) ≤ l.length := by
    cases hi with
    | none => exact Nat.le_refl _
    | some i => exact clipAt_le _ _
  rw [h]
  by_cases h0 : l.length = 0
  · have : l = [] := List.length_eq_zero_iff.mp h0
    subst this; simp
  · have : lo.elim 0 (clipAt l.length) = 0 := by lia
    rw [this]; simp

theorem part_of {v : Value} {b : Option Int} (h : IsPart v b) : ∃ p : Option (Int × Tok), v = partValue p ∧ p.map (·.1) = b := by
  cases h with
  | none => exact ⟨.none, rfl, rfl⟩
  | int i t => exact ⟨.some (i, t), rfl, rfl⟩

theorem cut_length {α : Type} (l : List α) (lo hi : Option Int) : (cut l lo hi).length ≤ l.length := by
  unfold cut
  rw [List.length_take, List.length_drop]; exact Nat.le_trans (Nat.min_le_right _ _) (Nat.sub_le _ _)

theorem SubG.cutS {l : List Nat} {lo hi : Option Int} (hsz : l.length ≤ sizeLine) : SubG C (vS l) (vSlice lo hi) (vS (cut l lo hi)) := fun A S s o v I _ ho hv => by
  obtain ⟨t, rfl⟩ := str_of ho
  obtain ⟨b, vl, vu, rfl, hb, hsl, pl, pu⟩ := hv
  obtain ⟨p, rfl, hp⟩ := part_of pl
  obtain ⟨q, rfl, hq⟩ := part_of pu
  refine ⟨⟨_, _, typeIs_str _ _ _, F.slot_str_getitem.lookup⟩, wpAny_getItem_str_slice (l := p) (u := q) (st := none) hsl rfl ?_⟩
  have e0 : (⟨l.toArray⟩ : Str).length = l.length := by simp [Str.length]
  have e1 : slicePicked ⟨l.toArray⟩ p q none = Builtin.Str.strSliceIndices lo hi 1 l.length := by
    unfold slicePicked
    rw [hp, hq, e0]; rfl
  have e2 := strSlice_eq lo hi l
  unfold sliceMade
  rw [e1]
  split
  · rename_i h
    simp only [Option.map_none, Option.getD_none, Bool.and_eq_true, beq_iff_eq, e0] at h
    have h3 : cut l lo hi = l := strSlice_whole h.2
    refine ⟨S, .refl I, t, by rw [h3]⟩
  · refine ⟨?_, S, Grow.tok I _, s.toks, ?_⟩
    · show Array.size _ ≤ _
      have : ((Builtin.Str.strSliceIndices lo hi 1 l.length).filterMap fun x => (l.toArray)[x]?) = cut l lo hi := by rw [← e2]; simp
      rw [this]
      simp
      exact Nat.le_trans (cut_length l lo hi) hsz
    · show Value.str ⟨((Builtin.Str.strSliceIndices lo hi 1 l.length).filterMap fun x => (l.toArray)[x]?).toArray⟩ _ = _
      have : ((Builtin.Str.strSliceIndices lo hi 1 l.length).filterMap fun x => (l.toArray)[x]?) = cut l lo hi := by rw [← e2]; simp
      rw [this]

end
end Mine

set_option tactic.hygienic false
namespace Mine
open PySem PySem.W PyProof.Rows

section
variable {C : Cx} {fr : Shape} {n : Nat} {vals vals' : List Slot}

theorem Gives.of_kept {A : Around} {S : ASet} {s : Shared} {h' : Heap} {tk : Nat} (I : Inv C S s) (hk : ∀ b o, s.heap.get? b = some o → h'.get? b = some o) : Grow C S s S { s with heap := h', toks := tk } :=
  grow_of_kept I hk (fun _ h => h) fun _ h => .inl h


theorem FnG.lenS {l : List Nat} (hsz : l.length ≤ sizeLine) : FnG C n (.builtin "len") [vS l] (vInt l.length) := fun A S s vs I _ hv => by
  obtain ⟨x, rfl, hx⟩ := hv.one
  obtain ⟨t, rfl⟩ := str_of hx
  have e0 : (⟨l.toArray⟩ : Str).length = l.length := by simp [Str.length]
  refine P.len_str ?_ ⟨S, Grow.tok I _, s.toks + 1, ?_⟩
  · rw [e0]; have : sizeLine = 16777216 := rfl; lia
  · rw [e0]
theorem FnG.lenL {l : List VP} (hsz : l.length ≤ sizeLine) : FnG C n (.builtin "len") [vLst l] (vInt l.length) := fun A S s vs I _ hv => by
  obtain ⟨x, rfl, hx⟩ := hv.one
  obtain ⟨a, ws, rfl, ha, hl, hw⟩ := hx
  refine len_list hl.isList ?_ ⟨S, Grow.tok I _, s.toks + 1, ?_⟩
  · rw [List.size_toArray, hw.length]; have : sizeLine = 16777216 := rfl; lia
  · rw [List.size_toArray, hw.length]
theorem FnG.lenT {l : List VP} (hsz : l.length ≤ sizeLine) : FnG C n (.builtin "len") [vTup l] (vInt l.length) := fun A S s vs I _ hv => by
  obtain ⟨x, rfl, hx⟩ := hv.one
  obtain ⟨a, ws, rfl, ha, hl, hw⟩ := hx
  refine len_tuple hl ?_ ⟨S, Grow.tok I _, s.toks + 1, ?_⟩
  · rw [List.size_toArray, hw.length]; have : sizeLine = 16777216 := rfl; lia
  · rw [List.size_toArray, hw.length]


noncomputable def vRange (a b c : Int) : VP where
  P := fun S h v => ∃ r t u w, v = .ref r ∧ S r ∧ IsRange h r a b c t u w
  mono := fun hs x => by obtain ⟨r, t, u, w, e, ha, q⟩ := x; exact ⟨r, t, u, w, e, hs _ ha, q⟩
  keep := fun hk x => by obtain ⟨r, t, u, w, e, ha, q⟩ := x; exact ⟨r, t, u, w, e, ha, hk _ _ ha q⟩

theorem FnG.range1 {b : Int} : FnG C n (.type "range") [vInt b] (vRange 0 b 1) := fun A S s vs I _ hv => by
  obtain ⟨x, rfl, hx⟩ := hv.one
  obtain ⟨t, rfl⟩ := int_of hx
  exact call_range_1 ⟨_, grow_push I rfl, _, _, _, _, rfl, .inr rfl, IsRange.new ..⟩
theorem FnG.range2 {a b : Int} : FnG C n (.type "range") [vInt a, vInt b] (vRange a b 1) := fun A S s vs I _ hv => by
  obtain ⟨x, y, rfl, hx, hy⟩ := hv.two
  obtain ⟨t, rfl⟩ := int_of hx; obtain ⟨u, rfl⟩ := int_of hy
  exact call_range_2 ⟨_, grow_push I rfl, _, _, _, _, rfl, .inr rfl, IsRange.new ..⟩
theorem FnG.range3 {a b c : Int} (hc : 0 < c) (hs : c < 1073741824) : FnG C n (.type "range") [vInt a, vInt b, vInt c] (vRange a b c) := fun A S s vs I _ hv => by
  obtain ⟨x, y, z, rfl, hx, hy, hz⟩ := hv.three
  obtain ⟨t, rfl⟩ := int_of hx; obtain ⟨u, rfl⟩ := int_of hy; obtain ⟨w, rfl⟩ := int_of hz
  exact call_range_3 (by lia) ⟨_, grow_push I rfl, _, _, _, _, rfl, .inr rfl, IsRange.new ..⟩ (.inl (PyProof.noPylong_small (by lia)))


noncomputable def rangeL (a b c : Int) : List Int := (List.range (if a < b then ((b - a - 1) / c + 1).toNat else 0)).map fun (k : Nat) => a + (k : Int) * c

theorem rangeL_one (a b : Int) : rangeL a b 1 = (List.range (b - a).toNat).map fun (k : Nat) => a + (k : Int) := by
  unfold rangeL
  have e : (if a < b then ((b - a - 1) / 1 + 1).toNat else 0) = (b - a).toNat := by
    rw [Int.ediv_one, Int.sub_add_cancel]
    split
    · rfl
    · rename_i h
      exact (Int.toNat_of_nonpos (Int.sub_nonpos_of_le (Int.not_lt.mp h))).symm
  rw [e]
  simp only [Int.mul_one]
theorem mem_rangeL {a b i : Int} (h : i ∈ rangeL a b 1) : a ≤ i ∧ i < b := by
  rw [rangeL_one] at h
  obtain ⟨k, hk, rfl⟩ := List.mem_map.mp h
  exact ⟨Int.le_add_of_nonneg_right (Int.natCast_nonneg _), Int.add_lt_of_lt_sub_left (Int.lt_toNat.mp (List.mem_range.mp hk))⟩
theorem rangeL_length (k : Nat) : (rangeL 0 k 1).length = k := by
  rw [rangeL_one, List.length_map, List.length_range, Int.sub_zero]; rfl
theorem rangeL_length' (a : Int) (k : Int) (h : 0 ≤ a) : ((rangeL a k 1).length : Int) ≤ max 0 k := by
  rw [rangeL_one, List.length_map, List.length_range, Int.ofNat_toNat]
  exact Int.max_le.mpr ⟨Int.le_trans (Int.sub_le_self k h) (Int.le_max_right _ _), Int.le_max_left _ _⟩
theorem fits63 {x : Int} (h : -(2 ^ 40) ≤ x ∧ x < 2 ^ 42) : -2 ^ 63 ≤ x ∧ x < 2 ^ 63 := ⟨Int.le_trans (by decide) h.1, Int.lt_trans h.2 (by decide)⟩
theorem range_small {a b c : Int} (hc : 0 < c) (ha : -(2 ^ 40) ≤ a ∧ a < 2 ^ 40) (hb : -(2 ^ 40) ≤ b ∧ b < 2 ^ 40) (hcs : c < 2 ^ 40) (hsize : Builtin.Range.rangeSize a b c = if a < b then (b - a - 1) / c + 1 else 0) : Builtin.Range.small a b c = true := by
  have f40 : ∀ {x : Int}, -(2 ^ 40) ≤ x ∧ x < 2 ^ 40 → -2 ^ 63 ≤ x ∧ x < 2 ^ 63 := fun h => fits63 ⟨h.1, Int.lt_trans h.2 (by decide)⟩
  have fc := f40 ⟨Int.le_trans (by decide) (Int.le_of_lt hc), hcs⟩
  unfold Builtin.Range.small
  rw [hsize]
  unfold Builtin.Range.rangeFitsLong
  by_cases h : a < b
  · have h0 : 0 ≤ b - a - 1 := Int.sub_nonneg_of_le (Int.add_one_le_of_lt h |> fun q => Int.le_sub_left_of_add_le q)
    have h1 : (b - a - 1) / c ≤ b - a - 1 := Int.ediv_le_self _ h0
    have h2 : 0 ≤ (b - a - 1) / c := Int.ediv_nonneg h0 (Int.le_of_lt hc)
    simp only [if_pos h, if_pos hc, Bool.and_eq_true, decide_eq_true_eq, Bool.or_eq_true]
    exact ⟨⟨⟨⟨f40 ha, f40 hb⟩, fc⟩, fits63 (by lia)⟩, .inr (fits63 (by lia))⟩
  · simp only [if_neg h, Bool.and_eq_true, decide_eq_true_eq, Bool.or_eq_true]
    exact ⟨⟨⟨⟨f40 ha, f40 hb⟩, fc⟩, by decide⟩, .inl rfl⟩
theorem IterG.range {a b c : Int} (hc : 0 < c) (ha : -(2 ^ 40) ≤ a ∧ a < 2 ^ 40) (hb : -(2 ^ 40) ≤ b ∧ b < 2 ^ 40) (hcs : c < 2 ^ 40) : IterG C (vRange a b c) ((rangeL a b c).map vInt) := fun A S s v I _ hp => by
  obtain ⟨r, t, u, w, rfl, hr, hq⟩ := hp
  have hsize : Builtin.Range.rangeSize a b c = if a < b then (b - a - 1) / c + 1 else 0 := by
    unfold Builtin.Range.rangeSize
    rw [if_pos hc]
  refine wpAny_pyIter_range hq (range_small hc ha hb hcs hsize) ⟨_, [s.heap.objs.size], S, rfl, grow_push' (tk := s.toks) I, ?_, fun b hb => ?_, rfl⟩
  · have := ItOk.range (S := S) (h := s.heap.push { cls := .type "range_iterator", data := .fields #[rawInt a, rawInt (Builtin.Range.rangeSize a b c), rawInt c] }) (I := s.heap.objs.size) (x := a) (left := Builtin.Range.rangeSize a b c) (step := c) (Heap.get?_push_size _ rfl)
    have e : (List.range (Builtin.Range.rangeSize a b c).toNat).map (fun (k : Nat) => vInt (a + (k : Int) * c)) = (rangeL a b c).map vInt := by
      unfold rangeL
      rw [List.map_map, hsize]
      have : (if a < b then (b - a - 1) / c + 1 else 0).toNat = if a < b then ((b - a - 1) / c + 1).toNat else 0 := by split <;> rfl
      rw [this]
      rfl
    rw [← e]
    exact this
  · cases List.mem_singleton.mp hb
    exact ⟨not_size I, not_live (size_none _)⟩


theorem all2_ints {S : ASet} {h : Heap} : ∀ {vs : List Value} {ns : List Int}, All2 S h vs (ns.map vInt) → ∃ xs : List (Int × Tok), vs = xs.map (fun p => Value.int p.1 p.2) ∧ xs.map (·.1) = ns
  | [], [], _ => ⟨[], rfl, rfl⟩
  | v :: vs, p :: L, ⟨⟨t, e⟩, b⟩ => by
    obtain ⟨l, h1, h2⟩ := all2_ints b
    exact ⟨(p, t) :: l, by rw [e, h1]; rfl, by simp [h2]⟩
  | [], _ :: _, x => x.elim
  | _ :: _, [], x => x.elim

theorem FnG.sum {ns : List Int} : FnG C n (.builtin "sum") [vLst (ns.map vInt)] (vInt ns.sum) := fun A S s vs I hA hv => by
  obtain ⟨x, rfl, hx⟩ := hv.one
  obtain ⟨a, ws, rfl, ha, hl, hw⟩ := hx
  obtain ⟨xs, rfl, hxs⟩ := all2_ints hw
  have hl' : s.heap.IsList a (intItems xs.toArray) := by
    have := hl.isList
    have e : intItems xs.toArray = (xs.map (fun p => Value.int p.1 p.2)).toArray := by simp [intItems]
    rw [e]; exact this
  refine sum_intListG hA.handled hl' fun h' tk t' hk => ⟨S, Gives.of_kept (A := A) I hk, t', ?_⟩
  rw [preSum_eq, List.take_of_length_le (by simp)]
  simp [hxs]


noncomputable def maxL : List Int → Int
  | [] => 0
  | x :: r => r.foldl max x

theorem foldl_max_le : ∀ (r : List Int) (x : Int), x ≤ r.foldl max x ∧ (∀ y ∈ r, y ≤ r.foldl max x) ∧ (r.foldl max x = x ∨ r.foldl max x ∈ r)
  | [], x => ⟨Int.le_refl _, fun _ h => by simp at h, .inl rfl⟩
  | y :: r, x => by
    obtain ⟨h1, h2, h3⟩ := foldl_max_le r (max x y)
    rw [List.foldl_cons]
    refine ⟨by lia, fun z hz => ?_, ?_⟩
    · rcases List.mem_cons.mp hz with rfl | hz
      · lia
      · exact h2 z hz
    · rcases h3 with h3 | h3
      · by_cases h : x ≤ y
        · right; rw [h3, Int.max_eq_right h]; exact .head _
        · left; rw [h3, Int.max_eq_left (by lia)]
      · right; exact .tail _ h3

theorem maxL_mem {l : List Int} (h : l ≠ []) : maxL l ∈ l ∧ ∀ x ∈ l, x ≤ maxL l := by
  cases l with
  | nil => exact absurd rfl h
  | cons x r =>
    obtain ⟨h1, h2, h3⟩ := foldl_max_le r x
    refine ⟨?_, fun y hy => ?_⟩
    · rcases h3 with h3 | h3
      · show r.foldl max x ∈ _
        rw [h3]; exact .head _
      · exact .tail _ h3
    · rcases List.mem_cons.mp hy with rfl | hy
      · exact h1
      · exact h2 y hy

theorem numAt_get (xs : List (Int × Tok)) (i : Nat) (h : i < xs.length) : numAt xs.toArray i = (xs[i]'h).1 := by
  simp [numAt, List.getElem?_eq_getElem h]

theorem FnG.maxL {ns : List Int} (hne : ns ≠ []) : FnG C n (.builtin "max") [vLst (ns.map vInt)] (vInt (Mine.maxL ns)) := fun A S s vs I hA hv => by
  obtain ⟨x, rfl, hx⟩ := hv.one
  obtain ⟨a, ws, rfl, ha, hl, hw⟩ := hx
  obtain ⟨xs, rfl, hxs⟩ := all2_ints hw
  have hl' : s.heap.IsList a (intItems xs.toArray) := by
    have := hl.isList
    have e : intItems xs.toArray = (xs.map (fun p => Value.int p.1 p.2)).toArray := by simp [intItems]
    rw [e]; exact this
  have hpos : 0 < xs.length := by
    cases xs with
    | nil => exact absurd hxs.symm hne
    | cons => simp
  refine max_intList hA.handled hl' (by simpa using hpos) fun v h' tk hv hk => ⟨S, Gives.of_kept (A := A) I hk, ?_⟩
  obtain ⟨t, rfl⟩ := intItems_at hv
  obtain ⟨b1, b2⟩ := argBest_gt (numAt xs.toArray) (xs.toArray.size - 1)
  generalize argBest (fun i j => decide (numAt xs.toArray i > numAt xs.toArray j)) (xs.toArray.size - 1) = k at hv b1 b2 ⊢
  have hk' : k < xs.length := by simp at b1; lia
  refine ⟨t, ?_⟩
  have e : numAt xs.toArray k = Mine.maxL ns := by
    obtain ⟨m1, m2⟩ := maxL_mem hne
    rw [← hxs] at m1 m2
    apply Int.le_antisymm
    · rw [← hxs]
      refine m2 _ ?_
      rw [numAt_get xs k hk']
      exact List.mem_map.mpr ⟨_, List.getElem_mem hk', rfl⟩
    · rw [← hxs]
      obtain ⟨p, hp, hp2⟩ := List.mem_map.mp m1
      obtain ⟨j, hj, rfl⟩ := List.mem_iff_getElem.mp hp
      rw [← hp2]
      have := b2 j (by simp; lia)
      rw [numAt_get xs j hj] at this
      exact this
  rw [e]

theorem FnG.max2 {a b : Int} : FnG C n (.builtin "max") [vInt a, vInt b] (vInt (max a b)) := fun A S s vs I hA hv => by
  obtain ⟨x, y, rfl, hx, hy⟩ := hv.two
  obtain ⟨t, rfl⟩ := int_of hx; obtain ⟨u, rfl⟩ := int_of hy
  refine max_two_ints hA.handled fun h' tk hk => ⟨S, Gives.of_kept (A := A) I hk, ?_⟩
  by_cases h : b > a
  · rw [if_pos h, Int.max_eq_right (by lia)]; exact ⟨u, rfl⟩
  · rw [if_neg h, Int.max_eq_left (by lia)]; exact ⟨t, rfl⟩
end
end Mine

set_option tactic.hygienic false
namespace Mine
open PySem PySem.W PyProof.Rows


noncomputable def dig (i : Int) : List Nat := (Str.ofString (toString i)).cps.toList
theorem dig_str (i : Int) : (⟨(dig i).toArray⟩ : Str) = Str.ofString (toString i) := by simp [dig]
theorem dig_digits {i : Int} (h0 : 0 ≤ i) : ∀ c ∈ dig i, 48 ≤ c ∧ c ≤ 57 := by
  obtain ⟨m, rfl⟩ := Int.eq_ofNat_of_zero_le h0
  intro c hc
  unfold dig at hc
  rw [KIN.signs_num] at hc
  obtain ⟨ch, hch, e⟩ := List.mem_map.mp hc
  have r := digit_range (Nat.isDigit_of_mem_toDigits (by decide) (by decide) hch)
  rw [← e]
  exact r
theorem dig_length {i : Int} (h0 : 0 ≤ i) (h1 : i < 10 ^ 10) : (dig i).length ≤ 10 := by
  have := KT.len_num h0 h1
  simpa [dig, Str.length] using this

section
variable {C : Cx} {fr : Shape} {n : Nat} {vals vals' : List Slot}

theorem FnG.str {i : Int} (h0 : 0 ≤ i) (h1 : i < 10 ^ 10) : FnG C n (.type "str") [vInt i] (vS (dig i)) := fun A S s vs I hA hv => by
  obtain ⟨x, rfl, hx⟩ := hv.one
  obtain ⟨t, rfl⟩ := int_of hx
  refine P.str_of_int ?_ ⟨S, Grow.tok I _, s.toks, ?_⟩
  · by_cases h : i.natAbs = 0
    · rw [h]; decide
    · have : i.natAbs.log2 < 40 := (Nat.log2_lt h).mpr (by lia)
      lia
  · rw [dig_str]
theorem FnG.int {i : Int} (h0 : 0 ≤ i) (h1 : i < 10 ^ 10) : FnG C n (.type "int") [vS (dig i)] (vInt i) := fun A S s vs I hA hv => by
  obtain ⟨x, rfl, hx⟩ := hv.one
  obtain ⟨t, rfl⟩ := str_of hx
  rw [dig_str]
  exact KIN.call_num h0 h1 ⟨S, Grow.tok I _, s.toks, rfl⟩


theorem canLay_ints (ns : List Int) : PyData.canLayAll0 (ns.map PyData.int) = true := by
  induction ns with
  | nil => rfl
  | cons a r ih => simp [PyData.canLayAll0, PyData.canLay0, ih]
theorem depth_ints (ns : List Int) : PyData.depthAll (ns.map PyData.int) ≤ 1 := by
  induction ns with
  | nil => simp [PyData.depthAll]
  | cons a r ih => simp [PyData.depthAll, PyData.depth]; lia

theorem add_lists_plain {A : Around} {s : Shared} {l b : Addr} {vs ws : List Value} {Q : Value → Shared → Prop} (hl : PL s.heap l vs.toArray) (hb : PL s.heap b ws.toArray)
    (h : Q (.ref s.heap.objs.size) { s with heap := s.heap.push { cls := .type "list", data := .seq (vs ++ ws).toArray } }) (hsz : vs.length + ws.length ≤ sizeLine) : wpAny C.M A (binaryOp .Add (.ref l) (.ref b)) Q F0 s := by
  obtain ⟨n1, ho⟩ := hl.exact
  obtain ⟨n2, ho2⟩ := hb.exact
  have e : vs.toArray ++ ws.toArray = (vs ++ ws).toArray := by simp
  refine concat_meets ⟨_, ho, rfl⟩ ⟨_, ho2, rfl⟩ noFill_list_add seq_list_add PySem.F.slot_list_add PySem.F.entry_list_add (PySem.F.args_list_add_2 _ _) (list_addW l b vs.toArray ws.toArray n1 n2 none none #[] #[] (by simpa using hsz)) ⟨ho, ho2, ?_⟩
  rw [e]
  exact h

theorem EvL.add {l r : Expr} {pos : Pos} {a b : List VP} (hl : Ev C fr n vals l (vLst a)) (hr : Ev C fr n vals r (vLst b)) (hsz : a.length + b.length ≤ sizeLine) : EvL C fr n vals (.BinOp l .Add r pos) (a ++ b) := fun hb env A S s F =>
  wpAny_BinOp (Gives.seq (q := vNone) (hl hb env A S s F) fun x S₁ s₁ g₁ hx => Gives.seq (q := vNone) (hr hb env A S₁ s₁ (F.grow g₁)) fun y S₂ s₂ g₂ hy => by
    have hx := (vLst a).mono g₂.sub ((vLst a).keep (g₂.keeps g₁.inv) hx)
    obtain ⟨i, vs, rfl, _, hl1, hx1⟩ := hx
    obtain ⟨j, ws, rfl, _, hl2, hx2⟩ := hy
    exact add_lists_plain hl1 hl2 ⟨S₂, (pushed_fresh (tk := s₂.toks) g₂.inv (hx1.append hx2)).before (g₁.trans g₂)⟩ (by rw [hx1.length, hx2.length]; exact hsz))

theorem foldl_rep (vs : List Value) : ∀ k : Nat, List.foldl (fun x1 x2 => x1 ++ x2) #[] (List.replicate k vs.toArray) = (List.replicate k vs).flatten.toArray := by
  intro k
  have key : ∀ (k : Nat) (acc : Array Value), List.foldl (fun x1 x2 => x1 ++ x2) acc (List.replicate k vs.toArray) = acc ++ (List.replicate k vs).flatten.toArray := by
    intro k
    induction k with
    | zero => intro acc; simp
    | succ k ih => intro acc; rw [List.replicate_succ, List.foldl_cons, ih, List.replicate_succ, List.flatten_cons]; simp
  rw [key k #[]]; simp

theorem All2.rep {S : ASet} {h : Heap} {vs : List Value} {ps : List VP} (x : All2 S h vs ps) : ∀ k : Nat, All2 S h (List.replicate k vs).flatten (List.replicate k ps).flatten
  | 0 => trivial
  | k + 1 => by rw [List.replicate_succ, List.replicate_succ, List.flatten_cons, List.flatten_cons]; exact x.append (x.rep k)

theorem mul_list_plain {A : Around} {s : Shared} {l : Addr} {vs : List Value} {x : Int} {u : Tok} {Q : Value → Shared → Prop} (hl : PL s.heap l vs.toArray)
    (hlo : -(2 ^ 63 : Int) ≤ x) (hhi : x < 2 ^ 63) (hsz : vs.length * x.toNat ≤ 2 ^ 24) (hne : vs ≠ [])
    (h : Q (.ref s.heap.objs.size) { s with heap := s.heap.push { cls := .type "list", data := .seq (List.replicate x.toNat vs).flatten.toArray } }) :
    wpAny C.M A (binaryOp .Mult (.ref l) (.int x u)) Q F0 s := by
  obtain ⟨k, ho⟩ := hl.exact
  have hsz' : vs.toArray.size * x.toNat ≤ 2 ^ 24 := by simpa using hsz
  refine wpAny_binaryOp_repeat_ref (T := "list") (U := "int") (by decide) ⟨_, ho, rfl⟩ (fun s' => typeIs_int s' x u) noFill_list_mul F.fills_int_mul F.slot_int_rmul repeat_list F.slot_int_index.lookup
    (call_meets F.slot_int_rmul (typeIs_int s x u) F.entry_int_rmul (F.args_int_rmul_2 _ _) (int___rmul___int_list x u l vs.toArray k)
      ⟨ho, rfl, ⟨_, ho, rfl⟩, call_meets F.slot_list_mul ⟨_, ho, rfl⟩ F.entry_list_mul (F.args_list_mul_2 _ _)
        (AutoListH.list___mul___list_int_3 l vs.toArray k x u (by simp [Builtin.List.listFitsIndex]; lia) (by lia) (by simp only [Builtin.List.listTooLong, sizeLine]; simp; simpa using hsz'))
        ⟨ho, ?_⟩⟩)
  have e0 : (if vs.toArray.isEmpty = true then 0 else x.toNat) = x.toNat := by
    cases vs with
    | nil => exact absurd rfl hne
    | cons => simp
  rw [e0, foldl_rep]
  exact h

theorem EvL.mul {l r : Expr} {pos : Pos} {p : VP} {k : Int} (hl : Ev C fr n vals l (vLst [p])) (hr : Ev C fr n vals r (vInt k)) (hk : k ≤ 1048576) (hk0 : -1048576 ≤ k) : EvL C fr n vals (.BinOp l .Mult r pos) (List.replicate k.toNat p) := fun hb env A S s F =>
  wpAny_BinOp (Gives.seq (q := vNone) (hl hb env A S s F) fun x S₁ s₁ g₁ hx => Gives.seq (q := vNone) (hr hb env A S₁ s₁ (F.grow g₁)) fun y S₂ s₂ g₂ hy => by
    have hx := (vLst [p]).mono g₂.sub ((vLst [p]).keep (g₂.keeps g₁.inv) hx)
    obtain ⟨i, vs, rfl, _, hl1, hx1⟩ := hx
    obtain ⟨t, rfl⟩ := int_of hy
    obtain ⟨v, rfl, hpv⟩ := hx1.one
    refine mul_list_plain hl1 (by lia) (by lia) (by simp; lia) (by simp) ?_
    rw [List.flatten_replicate_singleton]
    have hrep : All2 S₂ s₂.heap (List.replicate k.toNat v) (List.replicate k.toNat p) := by
      have := hx1.rep k.toNat
      rwa [List.flatten_replicate_singleton, List.flatten_replicate_singleton] at this
    exact ⟨S₂, (pushed_fresh (tk := s₂.toks) g₂.inv hrep).before (g₁.trans g₂)⟩)


theorem setItem_PL {A : Around} {s : Shared} {l : Addr} {items : Array Value} {k : Int} {t : Tok} {v : Value} {Q : Unit → Shared → Prop} (hl : PL s.heap l items) (h0 : 0 ≤ k) (hfit : k < 2 ^ 63) (hn : k < items.size)
    (hQ : ∀ h', PL h' l (items.setIfInBounds k.toNat v) → Heap.SameBut l s.heap h' → Q () { s with heap := h' }) : wpAny C.M A (setItem (.ref l) (.int k t) v) Q F0 s := by
  obtain ⟨n, ho⟩ := hl.exact
  have hT := hl.isList.typeIs
  unfold setItem
  try with_reducible refine wpAny_holding ?_
  first | refine wpAny_bind (wpAny_pure ?_) | skip
  refine wpAny_bind (wpAny_sequenceKey hT (by decide) ?_)
  refine wpAny_bind (wpAny_callSpecial?_slot (name := Str.ofString "__setitem__") hT slot_list_setitem
    (wpAny_call_entry slot_list_setitem hT entry_list_setitem ?_ (args_list_setitem _ _ _)))
  show wpAny _ _ (Builtin.List.listSubscript? (.int k t) >>= _) _ _ s
  refine wpAny_bind (wpAny_listSubscript_int (fitsIndex_of h0 hfit) ?_)
  clear hfit
  obtain ⟨j, rfl⟩ := Int.eq_ofNat_of_zero_le h0
  have hj : j < items.size := by lia
  have hx' : items[j]? = some items[j] := Array.getElem?_eq_getElem hj
  show wpAny _ _ ((seqItemAt l j >>= fun r => pure (r.map (j, ·))) >>= _) _ _ s
  refine wpAny_bind (wpAny_bind (wpAny_seqItemAt ho rfl (wpAny_pure ?_)))
  rw [hx']
  show wpAny _ _ (setSeqItemAt l j v >>= _) _ _ s
  have hfin : PL (s.heap.update l (Obj.mapSeq (·.setIfInBounds j v))) l (items.setIfInBounds j v) := ⟨_, _, Heap.get?_update_self _ ho rfl, rfl, rfl, rfl, rfl⟩
  refine wpAny_bind (wpAny_setSeqItemAt ho rfl ?_)
  first
    | exact wpAny_bind (wpAny_pure (wpAny_pure ⟨.none, rfl, wpAny_pure (hQ _ hfin (Heap.SameBut.update ..))⟩))
    | exact wpAny_pure ⟨.none, rfl, wpAny_pure (hQ _ hfin (Heap.SameBut.update ..))⟩

theorem FnG.tupleOf {l : List VP} (hsz : l.length ≤ sizeLine) : FnG C n (.type "tuple") [vLst l] (vTup l) := fun A S s vs I hA hv => by
  obtain ⟨x, rfl, hx⟩ := hv.one
  obtain ⟨a, ws, rfl, ha, hl, hw⟩ := hx
  refine call_tuple_list hl.isList (fun h' hk => ?_) (by rw [List.size_toArray, hw.length]; exact hsz)
  have g : Grow C S s S { s with heap := h' } := grow_of_kept (tk := s.toks) I hk (fun _ h => h) fun _ h => .inl h
  exact ⟨_, g.trans (grow_push (tk := s.toks) g.inv rfl), pushed_tup g.inv (hw.keep (g.keeps I))⟩

end
end Mine

set_option tactic.hygienic false
namespace Mine
open PySem PySem.W PyProof.Rows

section
variable {C : Cx} {fr : Shape} {n : Nat} {vals vals' : List Slot}

theorem Ex1.assignTuple {es : List Expr} {k : Nat} {tpos pos : Pos} {value : Expr} {ps : List VP} (hv : Ev C fr n vals value (vTup ps)) (hn : Names fr vals es ps vals') (hnd : fr.names.Nodup)
    (hs : ∀ env, swapsWithSole [.Tuple es k tpos] value pos.line env = pure false := by intro _; rfl) (hw : ∀ env, swappedStores [.Tuple es k tpos] value env = pure none := by intro _; rfl) :
    Ex1 C fr n vals (.Assign [.Tuple es k tpos] value pos) (.next vals') := fun hb env A S s F =>
  Assign_Tuple (Gives.seq (q := vNone) (hv hb env A S s F) fun v S₁ s₁ g x =>
    wpAny_mono ((Asg.tuple (C := C) (n := n) hn hnd).2 hb env A S₁ s₁ v (F.grow g) x) (fun _ _ ⟨S₂, st, F'⟩ => ⟨S₂, (F.stepGrow g).trans st, F'⟩) fun _ _ z => z) (hs env) (hw env)


theorem Ex1.assignSwap {x y : Str} {px py tpos pos : Pos} {k : Nat} {value : Expr} {p q : VP} (i j : Nat) (hi : fr.names[i]? = some x) (hj : fr.names[j]? = some y) (hnd : fr.names.Nodup) (hcx : canStore fr x = true) (hcy : canStore fr y = true)
    (hv : Ev C fr n vals value (vTup [p, q])) (hs : ∀ env, swapsWithSole [.Tuple [.Name x px, .Name y py] k tpos] value pos.line env = pure false := by intro _; rfl)
    (hw : ∀ env : Env, env.scope = fr.scope → swappedStores [.Tuple [.Name x px, .Name y py] k tpos] value env = pure (some [x, y])) :
    Ex1 C fr n vals (.Assign [.Tuple [.Name x px, .Name y py] k tpos] value pos) (.next ((vals.set j (.val q)).set i (.val p))) := fun hb env A S s F => by
  rw [exec_Assign_arm]
  refine wpAny_bind (wpAny_standAt ?_)
  rw [hs]
  refine wpAny_bind (wpAny_pure ?_)
  rw [if_neg (by decide)]
  refine wpAny_bind (Gives.seq (q := vNone) (hv hb env A S s F) fun v S₁ s₁ g z => ?_)
  rw [hw env F.scope]
  refine wpAny_bind (wpAny_pure ?_)
  obtain ⟨a, vs, rfl, ha, ht, hx⟩ := z
  obtain ⟨v1, v2, rfl, h1, h2⟩ := hx.two
  show wpAny C.M A (do
    rule "assign.swapped-stores"
    let items ← unpackItems (.ref a) 2 none
    assignInOrder ([y, x].map fun n => bindName env n) items.reverse
    pure Flow.next : Sem Flow) _ _ s₁
  have F₁ := F.grow g
  refine wpAny_bind (wpAny_rule (wpAny_bind (wpAny_unpackItems_tuple (items := [v1, v2].toArray) F.around.handled ht fun h' he => ?_)))
  have g' : Grow C S₁ s₁ S₁ { s₁ with heap := h' } := grow_of_kept (tk := s₁.toks) F₁.inv (fun b o e => he b o (Nat.ne_of_lt (Heap.lt_size e)) e) (fun _ h => h) fun _ h => .inl h
  have F₂ := F₁.grow g'
  show wpAny C.M A (assignInOrder [bindName env y, bindName env x] [v2, v1] >>= fun _ => (pure Flow.next : Sem Flow)) _ _ _
  refine wpAny_bind (wpAny_assignInOrder_more (wpAny_bindName (F₂.store hj hnd hcy (q.keep (g'.keeps F₁.inv) h2) fun s₃ st₃ F₃ _ => ?_)))
  refine wpAny_assignInOrder_more (wpAny_bindName (F₃.store hi hnd hcx (p.keep (st₃.keeps F₂.inv) (p.keep (g'.keeps F₁.inv) h1)) fun s₄ st₄ F₄ _ => ?_))
  exact wpAny_assignInOrder_none (wpAny_pure ⟨S₁, ((F.stepGrow g).trans ((F₁.stepGrow g').trans (st₃.trans st₄))), F₄⟩)

theorem Ex1.assign3 {x y z : Str} {px py pz pos : Pos} {e : Expr} {p : VP} (i j k : Nat) (hi : fr.names[i]? = some x) (hj : fr.names[j]? = some y) (hk : fr.names[k]? = some z) (hnd : fr.names.Nodup)
    (hcx : canStore fr x = true) (hcy : canStore fr y = true) (hcz : canStore fr z = true) (h : Ev C fr n vals e p) (hw : ∀ env, swappedStores [.Name x px, .Name y py, .Name z pz] e env = pure none := by intro _; rfl) :
    Ex1 C fr n vals (.Assign [.Name x px, .Name y py, .Name z pz] e pos) (.next (((vals.set i (.val p)).set j (.val p)).set k (.val p))) := fun hb env A S s F =>
  wpAny_Assign_three (Gives.seq (q := vNone) (h hb env A S s F) fun v S₁ s₁ g hp =>
    wpAny_assign_Name ((F.grow g).store hi hnd hcx hp fun s₂ st₂ F₂ _ => wpAny_assign_Name (F₂.store hj hnd hcy (p.keep (st₂.keeps g.inv) hp) fun s₃ st₃ F₃ _ =>
      wpAny_assign_Name (F₃.store hk hnd hcz (p.keep (st₃.keeps F₂.inv) (p.keep (st₂.keeps g.inv) hp)) fun s₄ st₄ F₄ _ => ⟨S₁, (F.stepGrow g).trans (st₂.trans (st₃.trans st₄)), F₄⟩)))) rfl (hw env)


theorem Ev.ownItem {x : Str} {np pos : Pos} {ie : Expr} {l : List VP} {k : Int} {p : VP} (i : Nat) (hi : fr.names[i]? = some x) (hv : vals[i]? = some (.own l)) (hk : Ev C fr n vals ie (vInt k)) (h0 : 0 ≤ k) (hs : k < 2 ^ 63) (hp : l[k.toNat]? = some p)
    (hd : (x == ("__debug__" : Str)) = false := by decide) (hn : (x == ("__classdict__" : Str)) = false := by decide) : Ev C fr n vals (.Subscript (.Name x np) ie pos) p := fun hb env A S s F => by
  obtain ⟨f, hsl⟩ := F.slots
  obtain ⟨hH, nS, nb, vs, hl, hx⟩ := hsl.own hi hv
  refine Subscript_ (wpAny_Name (hH.load F.kind hn ?_) hd)
  refine Gives.seq (q := p) (hk hb env A S s F) fun iv S₁ s₁ g hiv => ?_
  obtain ⟨t, rfl⟩ := int_of hiv
  obtain ⟨_, _, _, vs', hl', hx'⟩ := (hsl.grow F.inv g).own hi hv
  obtain ⟨w, hw, hpw⟩ := hx'.get hp
  obtain ⟨ops, ho⟩ := subscripted_ops ie (.ref (f i)) (.int k t)
  exact tail_any hl'.isList.typeIs slot_list_getitem.lookup (wpAny_getItem_list hl'.isList h0 hs (by simpa using hw) ⟨S₁, g, hpw⟩) ho

theorem Ex1.setItem {x : Str} {np spos pos : Pos} {ie e : Expr} {l : List VP} {k : Int} {p : VP} (i : Nat) (hi : fr.names[i]? = some x) (hv : vals[i]? = some (.own l)) (he : Ev C fr n vals e p) (hk : Ev C fr n vals ie (vInt k)) (h0 : 0 ≤ k) (hs : k < 2 ^ 63) (hlt : k < l.length)
    (hd : (x == ("__debug__" : Str)) = false := by decide) (hn : (x == ("__classdict__" : Str)) = false := by decide) (hsw : ∀ env, swapsWith e (some (.Subscript (.Name x np) ie spos)) pos.line env = pure false := by intro _; rfl) :
    Ex1 C fr n vals (.Assign [.Subscript (.Name x np) ie spos] e pos) (.next (vals.set i (.own (l.set k.toNat p)))) := fun hb env A S s F => by
  obtain ⟨f, hsl⟩ := F.slots
  refine wpAny_Assign_Subscript (Gives.seq (q := p) (he hb env A S s F) fun v S₁ s₁ g hp => ?_) (hsw env)
  have F₁ := F.grow g
  have hsl₁ := hsl.grow F.inv g
  obtain ⟨hH, _⟩ := hsl₁.own hi hv
  refine wpAny_Name (hH.load F.kind hn ?_) hd
  refine Gives.seq (q := p) (hk hb env A S₁ s₁ F₁) fun iv S₂ s₂ g₂ hiv => ?_
  obtain ⟨t, rfl⟩ := int_of hiv
  have F₂ := F₁.grow g₂
  have hsl₂ := hsl₁.grow F₁.inv g₂
  obtain ⟨_, _, _, vs, hl, hx⟩ := hsl₂.own hi hv
  refine setItem_PL hl h0 hs (by rw [List.size_toArray, hx.length]; exact hlt) fun h' hl' hs' => ?_
  have q := F₂.mutate (tk := s₂.toks) (vs' := vs.set k.toNat v) (l' := l.set k.toNat p) hsl₂ hi hv hl hs' (by simpa using hl') (hx.set _ (p.mono g₂.sub (p.keep (g₂.keeps g.inv) hp)))
  exact ⟨S₂, ((F.stepGrow g).trans (F₁.stepGrow g₂)).trans q.1, q.2⟩

end
end Mine

set_option tactic.hygienic false
set_option maxRecDepth 10000
namespace Mine
open PySem PySem.W PyProof.Rows


noncomputable def EntOk (S : ASet) (h : Heap) (e : DictEntry) (a : Str × VP) : Prop := (∃ t, e.key = .str a.1 t) ∧ a.2.P S h e.val
noncomputable def AttrsOk (S : ASet) (h : Heap) : List DictEntry → List (Str × VP) → Prop
  | [], [] => True
  | e :: r, a :: q => EntOk S h e a ∧ AttrsOk S h r q
  | _, _ => False
theorem AttrsOk.ind {S : ASet} {h : Heap} {P : List DictEntry → List (Str × VP) → Prop} (hn : P [] []) (hc : ∀ e r a q, EntOk S h e a → AttrsOk S h r q → P r q → P (e :: r) (a :: q)) : ∀ {es : List DictEntry} {as : List (Str × VP)}, AttrsOk S h es as → P es as := by
  intro es
  induction es with
  | nil =>
    intro as x
    cases as with
    | nil => exact hn
    | cons p ps => exact x.elim
  | cons v vs ih =>
    intro as x
    cases as with
    | nil => exact x.elim
    | cons p ps => exact hc v vs p ps x.1 x.2 (ih x.2)
theorem AttrsOk.mono {S S' : ASet} {h : Heap} (hs : ∀ a, S a → S' a) {es : List DictEntry} {as : List (Str × VP)} (x : AttrsOk S h es as) : AttrsOk S' h es as :=
  AttrsOk.ind (P := fun es as => AttrsOk S' h es as) trivial (fun _ _ a _ x _ z => ⟨⟨x.1, a.2.mono hs x.2⟩, z⟩) x
theorem AttrsOk.keep {S : ASet} {h h' : Heap} (hk : ∀ a o, S a → h.get? a = some o → h'.get? a = some o) {es : List DictEntry} {as : List (Str × VP)} (x : AttrsOk S h es as) : AttrsOk S h' es as :=
  AttrsOk.ind (P := fun es as => AttrsOk S h' es as) trivial (fun _ _ a _ x _ z => ⟨⟨x.1, a.2.keep hk x.2⟩, z⟩) x
theorem AttrsOk.length {S : ASet} {h : Heap} {es : List DictEntry} {as : List (Str × VP)} (x : AttrsOk S h es as) : es.length = as.length :=
  AttrsOk.ind (P := fun es as => es.length = as.length) rfl (fun _ _ _ _ _ _ z => congrArg Nat.succ z) x
theorem isStr_str (x y : Str) (t : Tok) : (Value.str x t).isStr y = (x == y) := rfl
theorem refKey_str {e : DictEntry} {x : Str} {t : Tok} (q : e.key = .str x t) : e.refKey = false := by
  unfold DictEntry.refKey; rw [q]
theorem AttrsOk.noRef {S : ASet} {h : Heap} {es : List DictEntry} {as : List (Str × VP)} (x : AttrsOk S h es as) : es.any (·.refKey) = false :=
  AttrsOk.ind (P := fun es _ => es.any (·.refKey) = false) rfl (fun _ _ _ _ x _ z => by rw [List.any_cons, z, refKey_str x.1.choose_spec]; rfl) x
theorem key_isStr {S : ASet} {h : Heap} {e : DictEntry} {a : Str × VP} (x : EntOk S h e a) (name : Str) : e.key.isStr name = (name == a.1) := by
  rw [x.1.choose_spec, isStr_str]; exact Bool.beq_comm
theorem AttrsOk.get' {S : ASet} {h : Heap} (name : Str) {es : List DictEntry} {as : List (Str × VP)} (x : AttrsOk S h es as) : ∀ p, as.lookup name = some p → ∃ e, es.find? (·.key.isStr name) = some e ∧ p.P S h e.val :=
  AttrsOk.ind (P := fun es as => ∀ p, as.lookup name = some p → ∃ e, es.find? (·.key.isStr name) = some e ∧ p.P S h e.val) (fun _ e => by cases e) (fun e r a q x _ ih p ep => by
    rw [show (a :: q).lookup name = _ from List.lookup_cons] at ep
    rw [List.find?_cons, key_isStr x]
    cases hq : (name == a.1) with
    | true => rw [hq] at ep; cases ep; exact ⟨e, rfl, x.2⟩
    | false => rw [hq] at ep; exact ih p ep) x
theorem AttrsOk.miss' {S : ASet} {h : Heap} (name : Str) {es : List DictEntry} {as : List (Str × VP)} (x : AttrsOk S h es as) : as.lookup name = none → es.find? (·.key.isStr name) = none :=
  AttrsOk.ind (P := fun es as => as.lookup name = none → es.find? (·.key.isStr name) = none) (fun _ => rfl) (fun e r a q x _ ih ep => by
    rw [show (a :: q).lookup name = _ from List.lookup_cons] at ep
    rw [List.find?_cons, key_isStr x]
    cases hq : (name == a.1) with
    | true => rw [hq] at ep; cases ep
    | false => rw [hq] at ep; exact ih ep) x
theorem AttrsOk.get {S : ASet} {h : Heap} {es : List DictEntry} {as : List (Str × VP)} (x : AttrsOk S h es as) {name : Str} {p : VP} (e : as.lookup name = some p) : ∃ v, getL name es = some (some v) ∧ p.P S h v := by
  obtain ⟨en, e1, e2⟩ := x.get' name p e
  exact ⟨en.val, by unfold getL; rw [e1], e2⟩
theorem AttrsOk.miss {S : ASet} {h : Heap} {es : List DictEntry} {as : List (Str × VP)} (x : AttrsOk S h es as) {name : Str} (e : as.lookup name = none) : getL name es = some none := by
  unfold getL; rw [x.miss' name e]; dsimp only; rw [x.noRef]; rfl
theorem AttrsOk.put {S : ASet} {h : Heap} {name : Str} {hsh : Int} {t : Tok} {v : Value} {p : VP} (hv : p.P S h v) {es : List DictEntry} {as : List (Str × VP)} (x : AttrsOk S h es as) : as.lookup name = none →
    AttrsOk S h (putL name hsh (.str name t) v es) (as ++ [(name, p)]) :=
  AttrsOk.ind (P := fun es as => as.lookup name = none → AttrsOk S h (putL name hsh (.str name t) v es) (as ++ [(name, p)])) (fun _ => ⟨⟨⟨t, rfl⟩, hv⟩, trivial⟩) (fun e r a q x _ ih hn => by
    rw [show (a :: q).lookup name = _ from List.lookup_cons] at hn
    cases hq : (name == a.1) with
    | true => rw [hq] at hn; cases hn
    | false =>
      rw [hq] at hn
      unfold putL
      rw [key_isStr x, hq, if_neg Bool.false_ne_true]
      exact ⟨x, ih hn⟩) x


noncomputable def vObj (Cl : Addr) (attrs : List (Str × VP)) : VP where
  P := fun S h v => ∃ x dx es m, v = .ref x ∧ S x ∧ S dx ∧ h.get? x = some (instObj Cl dx) ∧ h.get? dx = some (dictOf es m) ∧ AttrsOk S h es attrs
  mono := fun hs x => by obtain ⟨x, dx, es, m, e, h1, h2, h3, h4, h5⟩ := x; exact ⟨x, dx, es, m, e, hs _ h1, hs _ h2, h3, h4, h5.mono hs⟩
  keep := fun hk x => by obtain ⟨x, dx, es, m, e, h1, h2, h3, h4, h5⟩ := x; exact ⟨x, dx, es, m, e, h1, h2, hk _ _ h1 h3, hk _ _ h2 h4, h5.keep hk⟩

noncomputable def VP.Handed (p : VP) : Prop := ∀ S h v, p.P S h v → handedIn v = true
theorem handed_int {i} : (vInt i).Handed := fun _ _ _ ⟨_, e⟩ => by rw [e]; rfl
theorem handed_bool {i} : (vBool i).Handed := fun _ _ _ e => by rw [show _ = _ from e]; rfl
theorem handed_s {i} : (vS i).Handed := fun _ _ v x => by obtain ⟨t, e⟩ := x; rw [e]; rfl
theorem handed_tup {i} : (vTup i).Handed := fun _ _ _ ⟨_, _, e, _⟩ => by rw [e]; rfl
section
variable {C : Cx} {fr : Shape} {n : Nat} {vals vals' : List Slot} {K : Frag}

theorem Inv.frag {S : ASet} {s : Shared} (I : Inv C S s) (X : K.In C.base) : K.In s.heap := fun a o e => (I.base a o (X a o e)).1

theorem Ev.attrOf {e : Expr} {name : Str} {pos : Pos} {p r : VP} (h : Ev C fr n vals e p)
    (hg : ∀ (A : Around) S s v, AOk n A → Inv C S s → p.P S s.heap v → wpAny C.M A (getAttr v name true) (fun w s' => ∃ S', Grow C S s S' s' ∧ r.P S' s'.heap w) F0 s)
    (hbase : ∀ env, attributeBase e name env (eval e env) = eval e env := by intro _; rfl) : Ev C fr n vals (.Attribute e name pos) r := fun hb env A S s F => by
  refine (arm_eval_Attribute e name pos env) ▸ ?_
  rw [hbase]
  refine wpAny_bind (Gives.seq (q := r) (h hb env A S s F) fun v S₁ s₁ g hp => ?_)
  refine wpAny_bind (wpAny_standAt (wpAny_bind (wpAny_holding (wpAny_mono (hg A S₁ s₁ v F.around g.inv hp) (fun w s' ⟨S', g', hr⟩ => ?_) fun _ _ z => z))))
  exact wpAny_bind (wpAny_letTemporaryGo (wpAny_pure ⟨S', g.trans g', hr⟩))


theorem Ev.attr {e : Expr} {name : Str} {pos : Pos} {Cl : Addr} {attrs : List (Str × VP)} {p : VP} {attr : Option Value} (h : Ev C fr n vals e (vObj Cl attrs)) (X : K.In C.base) (hg : plainGet K Cl name = true) (hh : hasDictIn K Cl = true)
    (ha : findIn K (.ref Cl) name = some attr) (hn : noGet K attr = true) (hp : attrs.lookup name = some p) (hd : p.Handed) (hbase : ∀ env, attributeBase e name env (eval e env) = eval e env := by intro _; rfl) :
    Ev C fr n vals (.Attribute e name pos) p :=
  Ev.attrOf h (fun A S s v _ I pq => by
    obtain ⟨x, dx, es, m, e1, h1, h2, h3, h4, h5⟩ := pq
    subst e1
    obtain ⟨v, hv, hpv⟩ := h5.get hp
    exact get_value (I.frag X) (od := some (dictOf es m)) ⟨h3, rfl, rfl, h4⟩ (plainGet_of hg).1 (findObj_own hh ha hn ((lookIn_dict name es m).trans hv)) (hd _ _ _ hpv) ⟨S, Grow.tok I _, hpv⟩) hbase


theorem Ev.callMeth {o : Expr} {name : Str} {apos pos : Pos} {args : List Expr} {p : VP} {ps : List VP} {r : VP} {f : Value} (ho : Ev C fr n vals o p) (hk : KeepOk C f) (ha : EvArgs C fr n vals args ps)
    (hm : ∀ (A : Around) S s v (pl : Sem Bool) (Q : Value × List Value → Shared → Prop), AOk n A → Inv C S s → p.P S s.heap v → Q (f, [v]) s → wpAny C.M A (getMethod v name pl) Q F0 s)
    (hc : FnG C n f (p :: ps) r) (hbase : ∀ env, attributeBase o name env (eval o env) = eval o env := by intro _; rfl) (hlen : args.length < 30 := by decide) (hline : (apos.endLine == pos.line) = true := by rfl) :
    Ev C fr n vals (.Call (.Attribute o name apos) args [] pos) r := fun hb env A S s F => by
  refine (arm_eval_Call o name apos args [] pos env) ▸ ?_
  rw [hbase]
  refine wpAny_bind (Gives.seq (q := r) (ho hb env A S s F) fun v S₁ s₁ g hp => ?_)
  refine wpAny_bind (wpAny_standAt ?_)
  have hs := ha.1 env
  have hs' : (backTo pos (starEach args env)).all (fun x => !x.1) = true := by
    unfold backTo
    rw [List.all_map]
    have := hs.1
    rw [List.any_eq_false] at this
    rw [List.all_eq_true]
    intro y hy
    have := this y hy
    show (!y.1) = true
    cases hq : y.1 with
    | false => rfl
    | true => exact absurd hq this
  have hform : methodCallForm (args.length + ([] : List Keyword).length) (backTo pos (starEach args env)) (backToKw pos (keywordEach [] env)) = true := by
    unfold methodCallForm
    rw [hs']
    show (true && true && decide (args.length + 0 + 0 < 30)) = true
    simpa using hlen
  have hpos : methodCallPos true o env apos pos = pure pos := by unfold methodCallPos; simp [hline]
  unfold methodCall calleeOf
  rw [hform, if_pos rfl]
  refine wpAny_bind (wpAny_holding (hm A S₁ s₁ v _ _ F.around g.inv hp ?_))
  refine wpAny_bind (wpAny_of_eq hpos ?_)
  exact callWith_g (first := [v]) (F.grow g) hk ha fun S₂ s₂ vs g₂ y => wpAny_mono (hc A S₂ s₂ (v :: vs) g₂.inv F.around ⟨p.mono g₂.sub (p.keep (g₂.keeps g.inv) hp), y⟩) (fun _ _ ⟨S₃, g₃, z⟩ => ⟨S₃, (g.trans g₂).trans g₃, z⟩) fun _ _ z => z

theorem Ev.methStr {o : Expr} {name : Str} {apos pos : Pos} {args : List Expr} {l : List Nat} {ps : List VP} {r : VP} {id : String} (ho : Ev C fr n vals o (vS l)) (ha : EvArgs C fr n vals args ps) (hc : FnG C n (.builtin id) (vS l :: ps) r)
    (slot : PySem.Slot "str" name id) (hty : typeOf (.builtin id) = pure (.type "method_descriptor"))
    (hbase : ∀ env, attributeBase o name env (eval o env) = eval o env := by intro _; rfl) (hlen : args.length < 30 := by decide) (hline : (apos.endLine == pos.line) = true := by rfl) :
    Ev C fr n vals (.Call (.Attribute o name apos) args [] pos) r :=
  Ev.callMeth ho (.builtin id) ha (fun A S s v pl Q _ I ⟨t, e⟩ hQ => by
    subst e
    have pa : PlainAttrs "str" := PySem.F.plainAttrs_str
    have ti : s.TypeIs (.str ⟨l.toArray⟩ t) "str" := typeIs_str _ _ _
    have hd : ∀ a, Value.str ⟨l.toArray⟩ t = .ref a → ∃ o, s.heap.get? a = some o ∧ o.dict = Option.none := fun a q => Value.noConfusion q
    exact getMethod_builtin (M := C.M) (A := A) (E := F0) (s := s) (T := "str") (name := name) (id := id) (pl := pl) (Q := Q) ti pa slot hty hd hQ) hc hbase hlen hline

theorem Ev.methObj {o : Expr} {name : Str} {apos pos : Pos} {args : List Expr} {Cl f : Addr} {attrs : List (Str × VP)} {ps : List VP} {r : VP} (ho : Ev C fr n vals o (vObj Cl attrs)) (X : K.In C.base) (hg : plainGet K Cl name = true)
    (hf : findIn K (.ref Cl) name = some (some (.ref f))) (ht : isFn K (.ref f) = true) (hl : attrs.lookup name = Option.none) (hk : KeepOk C (.ref f)) (ha : EvArgs C fr n vals args ps) (hc : FnG C n (.ref f) (vObj Cl attrs :: ps) r)
    (hbase : ∀ env, attributeBase o name env (eval o env) = eval o env := by intro _; rfl) (hlen : args.length < 30 := by decide) (hline : (apos.endLine == pos.line) = true := by rfl) :
    Ev C fr n vals (.Call (.Attribute o name apos) args [] pos) r :=
  Ev.callMeth ho hk ha (fun A S s v pl Q _ I pq hQ => by
    obtain ⟨x, dx, es, m, e1, h1, h2, h3, h4, h5⟩ := pq
    subst e1
    exact method_fn (I.frag X) (od := some (dictOf es m)) ⟨h3, rfl, rfl, h4⟩ (plainGet_of hg).1 (plainGet_of hg).2 hf (beq_iff_eq.mp ht) (by show (lookIn name (dictOf es m)).map _ = _; rw [lookIn_dict, h5.miss hl]; rfl) hQ) hc hbase hlen hline


theorem Ev.clsAttr {e : Expr} {name : Str} {pos : Pos} {Cl : Addr} {a mc : Value} {p : VP} (h : Ev C fr n vals e (vIs (.ref Cl))) (X : K.In C.base) (hr : readsIn K Cl mc = true) (hf : findCls K (.ref Cl) mc name = some (.val a)) (hh : handedIn a = true)
    (hp : ∀ S h, p.P S h a) (hbase : ∀ env, attributeBase e name env (eval e env) = eval e env := by intro _; rfl) : Ev C fr n vals (.Attribute e name pos) p :=
  Ev.attrOf h (fun A S s v _ I e1 => by
    cases (show v = _ from e1)
    exact cls_value (I.frag X) hr hf hh ⟨S, Grow.tok I _, hp _ _⟩) hbase

end
end Mine

set_option tactic.hygienic false
set_option maxRecDepth 10000
namespace Mine
open PySem PySem.W PyProof.Rows

section
variable {C : Cx} {fr : Shape} {n : Nat} {vals vals' : List Slot} {K : Frag}


theorem FrameOk.foreignMove {hb env A S s} {d : Addr} {h' : Heap} {tk : Nat} {es : Array DictEntry} {m : Nat} {od : Obj} (F : FrameOk C fr n hb env A S s vals) (hs : Heap.SameBut d s.heap h') (hd : s.heap.get? d = some od) (hdd : od.data = .dict es m) (hbd : hb d) (nS : ¬ S d)
    (ha : (h'.get? d).isSome = true) : FrameOk C fr n hb env A S { s with heap := h', toks := tk } vals := by
  have nt : ¬ C.isTab d := F.inv.notab_of hd fun vs q => by rw [hdd] at q; cases q
  have st : Step C (fun _ => False) S s S { s with heap := h', toks := tk } := step_sameBut F.inv hs nS nt (fun q => q)
  have nl : env.locals ≠ d := fun q => F.locNot.2 (q ▸ hbd)
  have cellNe : ∀ {c v}, s.heap.IsCell c v → c ≠ d := fun {c v} ⟨o, e, hc⟩ q => by
    subst q; rw [hd] at e; cases e; rw [hdd] at hc; cases hc
  have listNe : ∀ {c v}, PL s.heap c v → c ≠ d := fun {c v} ⟨o, k, e, _, _, hc, _⟩ q => by
    subst q; rw [hd] at e; cases e; rw [hdd] at hc; cases hc
  refine ⟨st.inv, F.scope, F.kind, F.globals, F.builtins, F.around, fun b q => ?_, ?_, F.locNot, fun x c hc => ?_, F.apart, F.ownc, ?_⟩
  · show (h'.get? b).isSome = true
    by_cases q2 : b = d
    · subst q2; exact ha
    · rw [hs.2 b q2]; exact F.alive b q
  · obtain ⟨mm, x⟩ := F.ns; exact ⟨mm, x.sameBut hs nl⟩
  · obtain ⟨v, x⟩ := F.cells x c hc
    have ne := cellNe x
    obtain ⟨o, e, hc⟩ := x
    exact ⟨v, o, (hs.2 c ne).trans e, hc⟩
  · obtain ⟨f, x⟩ := F.slots
    refine ⟨f, x.move (fun y v hy => ?_) (fun _ h => h) (fun a o ha e => (hs.2 a (fun q => nS (q ▸ ha))).trans e) fun a items h1 h2 x => ⟨list_sameBut x hs (listNe x), h1⟩⟩
    rcases hy with ⟨a, mm, b, e⟩ | ⟨a, c, b, e⟩
    · exact .inl ⟨a, mm, b.sameBut hs nl, e⟩
    · have ne := cellNe e
      obtain ⟨o, e1, e2⟩ := e
      exact .inr ⟨a, c, b, o, (hs.2 c ne).trans e1, e2⟩

structure InitOk (C : Cx) (fr : Shape) (n : Nat) (Cl x dx : Addr) (hb₀ hb₁ : ASet) (env : Env) (A : Around) (S : ASet) (s : Shared) (vals : List Slot) (attrs : List (Str × VP)) : Prop where
  frame : FrameOk C fr n hb₁ env A S s vals
  px : hb₁ x
  pd : hb₁ dx
  nx : ¬ S x
  nd : ¬ S dx
  le : ∀ b, hb₀ b → hb₁ b
  ox : ¬ hb₀ x
  od : ¬ hb₀ dx
  inst : s.heap.get? x = some (instObj Cl dx)
  attr : ∃ es m, s.heap.get? dx = some (dictOf es m) ∧ AttrsOk S s.heap es attrs

noncomputable def ExI (C : Cx) (fr : Shape) (n : Nat) (Cl x : Addr) (vals : List Slot) (attrs : List (Str × VP)) (ss : List Stmt) (attrs' : List (Str × VP)) : Prop :=
  ∀ dx hb₀ hb₁ env A S s, InitOk C fr n Cl x dx hb₀ hb₁ env A S s vals attrs →
    wpAny C.M A (execs ss env) (fun f s' => f = .next ∧ ∃ S' vals', Step C hb₀ S s S' s' ∧ InitOk C fr n Cl x dx hb₀ hb₁ env A S' s' vals' attrs') F0 s

variable {Cl x : Addr} {attrs attrs' : List (Str × VP)}

theorem ExI.nil : ExI C fr n Cl x vals attrs [] attrs := fun _ _ _ _ _ S _ Y => wpAny_execs_nil ⟨rfl, S, vals, .refl Y.frame.inv, Y⟩

theorem InitOk.step {dx hb₀ hb₁ env A S s S' s'} (Y : InitOk C fr n Cl x dx hb₀ hb₁ env A S s vals attrs) (st : Step C hb₁ S s S' s') (F' : FrameOk C fr n hb₁ env A S' s' vals') : InitOk C fr n Cl x dx hb₀ hb₁ env A S' s' vals' attrs := by
  obtain ⟨es, m, h1, h2⟩ := Y.attr
  refine ⟨F', Y.px, Y.pd, fun q => (st.new _ q).elim Y.nx fun e => e Y.px, fun q => (st.new _ q).elim Y.nd fun e => e Y.pd, Y.le, Y.ox, Y.od, st.kept _ _ (Y.frame.inv.notab_of Y.inst fun vs q => by cases q) (.inl Y.px) Y.inst, es, m,
    st.kept _ _ (Y.frame.inv.notab_of h1 fun vs q => by cases q) (.inl Y.pd) h1, (h2.keep (st.keeps Y.frame.inv)).mono st.sub⟩

theorem ExI.cons {st : Stmt} {rest : List Stmt} (h1 : Ex1 C fr n vals st (.next vals')) (h2 : ExI C fr n Cl x vals' attrs rest attrs') : ExI C fr n Cl x vals attrs (st :: rest) attrs' := fun dx hb₀ hb₁ env A S s Y =>
  wpAny_execs_cons (wpAny_mono (h1 hb₁ env A S s Y.frame) (fun f s' pq => by
    obtain ⟨S', st, y⟩ := pq
    cases f <;> first | exact y.elim | skip
    refine wpAny_mono (h2 dx hb₀ hb₁ env A S' s' (Y.step st y)) (fun f s'' ⟨e, S'', vs, st', z⟩ => ⟨e, S'', vs, (st.weaken Y.le).trans st', z⟩) fun _ _ q => q) fun _ _ q => q)

theorem ExI.freeze {ss : List Stmt} {y : Str} {l : List VP} (i : Nat) (hi : fr.names[i]? = some y) (hv : vals[i]? = some (.own l)) (h : ExI C fr n Cl x (vals.set i (.val (vLst l))) attrs ss attrs') : ExI C fr n Cl x vals attrs ss attrs' := fun dx hb₀ hb₁ env A S s Y => by
  obtain ⟨b, its, _, _, st, F'⟩ := Y.frame.freeze hi hv
  exact wpAny_mono (h dx hb₀ hb₁ env A _ s (Y.step st F')) (fun f s'' ⟨e, S'', vs, st', z⟩ => ⟨e, S'', vs, (st.weaken Y.le).trans st', z⟩) fun _ _ q => q

theorem sameBut_update {h : Heap} {a : Addr} {f : Obj → Obj} : Heap.SameBut a h (h.update a f) := ⟨Heap.size_update _ _ _, fun b hb => Heap.get?_update_ne _ _ _ _ hb⟩

theorem setAttr_dict {prog : Program} {w : World} {A : Around} {E : Value → Shared → Prop} {s : Shared} {dx : Addr} {es : List DictEntry} {m : Nat} {name : Str} {v : Value} {Q : Unit → Shared → Prop} (X : K.In s.heap) (hx : s.heap.get? x = some (instObj Cl dx)) (hd : s.heap.get? dx = some (dictOf es m))
    (hs : findIn K (.ref Cl) "__setattr__" = some (some (.builtin "object.__setattr__"))) (hp : plainOver K Cl = true) (ht : takerIn K Cl name = some none) (hh : hasDictIn K Cl = true) (hr : es.any (·.refKey) = false) (hz : (putL name (PyData.keyHash w.params name) (.str name (s.toks + 1)) v es).length ≤ 1000)
    (h : ∀ h' tk, Heap.SameBut dx s.heap h' → h'.get? dx = some (dictOf (putL name (PyData.keyHash w.params name) (.str name (s.toks + 1)) v es) (putN name es m)) → Q () { s with heap := h', toks := tk }) :
    wpAny (model prog w) A (setAttr (.ref x) name v) Q E s := by
  have I : InstAt s.heap x (instObj Cl dx) Cl (some (dictOf es m)) := ⟨hx, rfl, rfl, hd⟩
  refine set_plain X I hs (osa_open (s := { s with toks := s.toks + 1 }) X I hp ht fun b => ?_)
  obtain ⟨cd, hc, hd'⟩ := any_some hh
  have U := putName_dict name (PyData.keyHash w.params name) (.str name (s.toks + 1)) v es m
  refine wpAny_bind (wpAny_pure (wpAny_bind (wpAny_bind (wpAny_loadPart hx (wpAny_bind ((looks_clsIn (h := ({ s with toks := s.toks + 1 } : Shared).heap) X hc).here (s := { s with toks := s.toks + 1 }) ?_))))))
  rw [hd']
  refine wpAny_pure (a := some dx) (wpAny_bind (wpAny_pure (wpAny_bind ?_)))
  unfold nsSet
  refine wpAny_bind (wpAny_bind (wpAny_askSetting (wpAny_pure (wpAny_bind (wpAny_mkText (wpAny_bind (wpAny_loadPart hd ?_)))))))
  dsimp only
  have c : (!es.toArray.any (·.key.isStr name) && es.toArray.any (·.refKey)) = false := by
    rw [← Array.any_toList, ← Array.any_toList, hr, Bool.and_false]
  rw [aRefKeyMayBeTheName_at, c]
  refine wpAny_updatePart hd ?_
  have D' := Heap.get?_update_self (Obj.putName name (PyData.keyHash w.params name) (.str name (s.toks + 1)) v) hd (by rw [U]; rfl)
  rw [U] at D'
  refine wpAny_bind (wpAny_lookBehind D' (pastItsLine_dict (by rw [List.size_toArray, sizeLine_eq]; lia)) ?_)
  exact wpAny_pure (h _ _ sameBut_update D')


theorem ExI.set {rest : List Stmt} {sn name : Str} {np apos pos : Pos} {e : Expr} {p : VP} (i : Nat) (hi : fr.names[i]? = some sn) (hv : vals[i]? = some (.val (vIs (.ref x)))) (he : Ev C fr n vals e p) (X : K.In C.base)
    (hs : findIn K (.ref Cl) "__setattr__" = some (some (.builtin "object.__setattr__"))) (hp : plainOver K Cl = true) (ht : takerIn K Cl name = some none) (hh : hasDictIn K Cl = true) (hn : attrs.lookup name = none) (hz : attrs.length < 100)
    (h2 : ExI C fr n Cl x vals (attrs ++ [(name, p)]) rest attrs')
    (hd : (sn == ("__debug__" : Str)) = false := by decide) (hcn : (sn == ("__classdict__" : Str)) = false := by decide) (hsw : ∀ env, swapsWith e (some (.Attribute (.Name sn np) name apos)) pos.line env = pure false := by intro _; rfl) :
    ExI C fr n Cl x vals attrs (.Assign [.Attribute (.Name sn np) name apos] e pos :: rest) attrs' := fun dx hb₀ hb₁ env A S s Y => by
  refine wpAny_execs_cons (plainObj_wpAny_Assign_Attribute (Gives.seq (q := p) (he hb₁ env A S s Y.frame) fun v S₁ s₁ g hpv => ?_) (hsw env))
  have Y₁ := Y.step (Y.frame.stepGrow g) (Y.frame.grow g)
  have F₁ := Y₁.frame
  obtain ⟨f, _, hsl, _⟩ := F₁.slots
  obtain ⟨v', y, z⟩ := hsl i sn _ hi hv
  cases (show v' = .ref x from z)
  refine wpAny_Name (y.load F₁.kind hcn ?_) hd
  obtain ⟨es, m, h1, h2'⟩ := Y₁.attr
  have hlen : ∀ t : Tok, (putL name (PyData.keyHash C.w.params name) (.str name t) v es).length ≤ 1000 := fun t => by
    rw [(AttrsOk.put (hsh := PyData.keyHash C.w.params name) (t := t) hpv h2' hn).length, List.length_append]
    simp only [List.length_cons, List.length_nil]; lia
  refine setAttr_dict (F₁.inv.frag X) Y₁.inst h1 hs hp ht hh h2'.noRef (hlen _) fun h' tk hsb hd' => ?_
  have F₂ : FrameOk C fr n hb₁ env A S₁ { s₁ with heap := h', toks := tk } vals := F₁.foreignMove hsb h1 rfl Y₁.pd Y₁.nd (by rw [hd']; rfl)
  have nt : ¬ C.isTab dx := F₁.inv.notab_of h1 fun vs q => by cases q
  have st : Step C hb₀ S₁ s₁ S₁ { s₁ with heap := h', toks := tk } := step_sameBut F₁.inv hsb Y₁.nd nt Y₁.od
  have xd : x ≠ dx := fun q => by have := Y₁.inst; rw [q, h1] at this; cases this
  have Y₂ : InitOk C fr n Cl x dx hb₀ hb₁ env A S₁ { s₁ with heap := h', toks := tk } vals (attrs ++ [(name, p)]) :=
    ⟨F₂, Y₁.px, Y₁.pd, Y₁.nx, Y₁.nd, Y₁.le, Y₁.ox, Y₁.od, (hsb.2 x xd).trans Y₁.inst, _, _, hd', (AttrsOk.put hpv h2' hn).keep (st.keeps F₁.inv)⟩
  exact wpAny_mono (h2 dx hb₀ hb₁ env A S₁ _ Y₂) (fun f s'' ⟨e, S'', vs, st', z⟩ => ⟨e, S'', vs, (((Y.frame.stepGrow g).weaken Y.le).trans st).trans st', z⟩) fun _ _ q => q


theorem ExI.for_ {rest body : List Stmt} {sn name : Str} {tgt : Expr} {np apos pos : Pos} {p : VP} {attr : Option Value} {items : List VP} (i : Nat) (hi : fr.names[i]? = some sn) (hv : vals[i]? = some (.val (vIs (.ref x)))) (X : K.In C.base) (hg : plainGet K Cl name = true) (hh : hasDictIn K Cl = true)
    (ha : findIn K (.ref Cl) name = some attr) (hn : noGet K attr = true) (hp : attrs.lookup name = some p) (hdd : p.Handed) (hI : IterG C p items) (ht : Turns C fr n tgt body vals items (.next vals'))
    (h2 : ExI C fr n Cl x vals' attrs rest attrs')
    (hd : (sn == ("__debug__" : Str)) = false := by decide) (hcn : (sn == ("__classdict__" : Str)) = false := by decide) (hs : ∀ env x, foldedSetIterable (.Attribute (.Name sn np) name apos) env x = pure x := by intro _ _; rfl) :
    ExI C fr n Cl x vals attrs (.For tgt (.Attribute (.Name sn np) name apos) body [] pos :: rest) attrs' := fun dx hb₀ hb₁ env A S s Y => by
  have F := Y.frame
  obtain ⟨f, _, hsl, _⟩ := F.slots
  obtain ⟨v', y, z⟩ := hsl i sn _ hi hv
  cases (show v' = .ref x from z)
  obtain ⟨es, m, h1, h5⟩ := Y.attr
  have hit : Gives C A (eval (.Attribute (.Name sn np) name apos) env) S s p := by
    refine (arm_eval_Attribute (.Name sn np) name apos env) ▸ ?_
    refine wpAny_bind (show wpAny C.M A (eval (.Name sn np) env) _ _ s from wpAny_Name (y.load F.kind hcn ?_) hd)
    obtain ⟨v, hv', hpv⟩ := h5.get hp
    refine wpAny_bind (wpAny_standAt (wpAny_bind (wpAny_holding ?_)))
    refine get_value (F.inv.frag X) (od := some (dictOf es m)) ⟨Y.inst, rfl, rfl, h1⟩ (plainGet_of hg).1 (findObj_own hh ha hn ((lookIn_dict name es m).trans hv')) (hdd _ _ _ hpv) ?_
    exact wpAny_bind (wpAny_letTemporaryGo (wpAny_pure ⟨S, Grow.tok F.inv _, hpv⟩))
  refine wpAny_execs_cons (wpAny_For (Gives.seq (q := p) hit fun v S₁ s₁ g x => ?_) (hs env))
  refine wpAny_mono (hI A S₁ s₁ v g.inv (F.around.le (Nat.zero_le _)) x) (fun it s₂ pq => ?_) fun _ _ z => z
  obtain ⟨I, wr, S₂, e, g₂, hi, nn, w1⟩ := pq
  subst e
  have F₂ := ((F.grow g).grow g₂)
  have nb : ∀ a ∈ wr, ¬ hb₁ a := fun a ha q => (nn a ha).2 (g.alive (F.alive a q))
  refine codeAny_mono (ht.loop (F₂.protect hi.foreign) hi (fun a ha => (nn a ha).1) nb (.inl w1)) fun r s' y => ?_
  cases r with
  | error e => exact y.elim
  | ok f =>
    obtain ⟨S', st, y⟩ := y
    have st' := ((F.stepGrow g).trans ((F.grow g).stepGrow g₂)).trans st
    cases f <;> first | exact y.elim | skip
    exact wpAny_mono (h2 dx hb₀ hb₁ env A S' s' (Y.step st' y)) (fun f s'' ⟨e, S'', vs, st'', z⟩ => ⟨e, S'', vs, (st'.weaken Y.le).trans st'', z⟩) fun _ _ q => q

theorem AOk.make {A : Around} {a : Addr} {rest : List Value} {kw : List (Str × Value)} (x : AOk (n + 1) A) : AOk n (A.under (.builtin "type.__call__" ⟨.ref a :: rest, kw⟩)) := by
  have h1 : (Code.builtin "type.__call__" ⟨.ref a :: rest, kw⟩).weight = 1 := rfl
  have h2 : (Code.builtin "type.__call__" ⟨.ref a :: rest, kw⟩).cUnits = 1 := rfl
  refine ⟨x.handled, ?_, ?_⟩
  · show A.depth + _ + n < _; rw [h1, Nat.add_right_comm]; exact x.depth
  · show A.units + _ + 20 * n + 100 < _; rw [h2]; exact AOk.step x.units (by decide)

theorem KeepOk.cls (X : K.In C.base) {a : Addr} (h : keepIn K (.ref a) = true) : KeepOk C (.ref a) := fun h' k =>
  let ⟨q, e, l⟩ := looks_keep (M := C.M) (K := K) (h := h') (f := .ref a) h (fun b o e => k b o (X b o e))
  ⟨q, e.imp id .inl, l⟩


theorem FnG.make {fI : Addr} {fd : FuncData} {body : List Stmt} {xs : List Str} {ps : List VP} (X : K.In C.base) (hm : makesIn K Cl = true) (hi : findIn K (.ref Cl) "__init__" = some (some (.ref fI))) (hf : typeIn K (.ref fI) = some (.type "function"))
    (D : DefOk C fI fd body xs fr) (hl : ps.length + 1 = xs.length)
    (h : ∀ x, ExI C fr n Cl x (startVals (vIs (.ref x) :: ps) (fr.names.length - xs.length)) [] body attrs) : FnG C (n + 2) (.ref Cl) ps (vObj Cl attrs) := fun A S s vs I hA hx => by
  have X' := I.frag X
  refine wpAny_call ?_
  obtain ⟨hh, gg, d, t, os⟩ := s
  have nS : ∀ b, hh.objs.size ≤ b → ¬ S b := fun b hb q => by
    have := I.live b q
    cases e : hh.get? b with
    | none => rw [e] at this; cases this
    | some o => exact absurd (Heap.lt_size e) (Nat.not_lt.mpr hb)
  have nL : ∀ b, hh.objs.size ≤ b → ¬ liveIn hh b := fun b hb q => by
    obtain ⟨o, e⟩ := live_get q; exact absurd (Heap.lt_size e) (Nat.not_lt.mpr hb)
  refine make_core (makes_of X' hm) (looks_findIn X' hi) (fun self => bind_fn X' self hf) (.inl rfl) ?_
  have k : ∀ b o, hh.get? b = some o → ((hh.push emptyDict).push (instObj Cl hh.objs.size)).get? b = some o := fun b o e => Heap.get?_push_of_some _ (Heap.get?_push_of_some _ e)
  have g₀ : Grow C S ⟨hh, gg, d, t, os⟩ S ⟨(hh.push emptyDict).push (instObj Cl hh.objs.size), gg, d, t, os⟩ := grow_of_kept (tk := t) I k (fun _ h => h) fun _ h => .inl h
  have hxx : ((hh.push emptyDict).push (instObj Cl hh.objs.size)).get? (hh.objs.size + 1) = some (instObj Cl hh.objs.size) := by heap_get
  have hdd : ((hh.push emptyDict).push (instObj Cl hh.objs.size)).get? hh.objs.size = some emptyDict := Heap.get?_push_of_some _ (Heap.get?_push_size _ rfl)
  refine code_topAt (n := n) D (ps := vIs (.ref (hh.objs.size + 1)) :: ps) (by rw [List.length_cons]; exact hl) g₀.inv hA.make ⟨rfl, hx.keep fun b o _ e => k b o e⟩ fun env A' s₁ _ _ _ g F => ?_
  have hx₁ := g.all _ _ (g₀.inv.notab_of hxx fun vs q => by cases q) hxx
  have hd₁ := g.all _ _ (g₀.inv.notab_of hdd fun vs q => by cases q) hdd
  have Y : InitOk C fr n Cl (hh.objs.size + 1) hh.objs.size (liveIn hh) _ env A' S s₁ _ [] :=
    ⟨F, live_of hxx, live_of hdd, nS _ (Nat.le_succ _), nS _ (Nat.le_refl _), fun b q => g₀.alive q, nL _ (Nat.le_succ _), nL _ (Nat.le_refl _), hx₁, [], 0, hd₁, trivial⟩
  refine wpAny_mono (h _ _ _ _ _ _ _ _ Y) (fun f s' pq => ?_) fun _ _ z => z
  obtain ⟨e, S', vs', st, Y'⟩ := pq
  subst e
  refine ⟨rfl, ?_⟩
  obtain ⟨es, m, e1, e2⟩ := Y'.attr
  have F' := Y'.frame
  have ntx := F'.inv.notab_of Y'.inst fun vs q => by cases q
  have ntd := F'.inv.notab_of e1 fun vs q => by cases q
  let S2 : ASet := fun a => S' a ∨ a = hh.objs.size + 1 ∨ a = hh.objs.size
  have sub : ∀ a, S' a → S2 a := fun _ h => .inl h
  have st2 : Step C (liveIn hh) S' s' S2 s' :=
    ⟨⟨fun b o e => ⟨(F'.inv.base b o e).1, .inl (F'.inv.base b o e).2⟩, fun b h => by
        rcases h with h | h | h
        · exact F'.inv.live b h
        · subst h; exact live_of Y'.inst
        · subst h; exact live_of e1, fun t ht => (F'.inv.tab t ht).move (fun _ e => e) sub fun _ _ _ e => e, fun b h => by
        rcases h with h | h | h
        · exact F'.inv.notab b h
        · subst h; exact ntx
        · subst h; exact ntd, F'.inv.gens, F'.inv.os⟩, sub, fun b h => h.imp id fun q => by
        rcases q with q | q
        · subst q; exact Y'.ox
        · subst q; exact Y'.od, fun _ _ _ _ e => e⟩
  have gF : Grow C S ⟨hh, gg, d, t, os⟩ S2 s' := Step.trans (Step.trans (Grow.trans g₀ g) st) st2
  exact ⟨S2, gF, _, _, es, m, rfl, .inr (.inl rfl), .inr (.inr rfl), Y'.inst, e1, e2.mono sub⟩

end
end Mine

set_option tactic.hygienic false
set_option maxRecDepth 100000
namespace Mine
open PySem PySem.W PyProof.Rows PySem.Builtin PySem.Builtin.ObjectAttr

theorem fnGaLookup : typeLookup (.type "function") "__getattribute__" = pure (some (.builtin "object.__getattribute__")) := by rw [typeLookup_type, builtinLookup_eq_fast]; kernel_rfl
theorem fnSpan : typeLookup (.type "function") "span" = pure none := by rw [typeLookup_type, builtinLookup_eq_fast]; kernel_rfl
theorem fnSearch : typeLookup (.type "function") "search" = pure none := by rw [typeLookup_type, builtinLookup_eq_fast]; kernel_rfl
theorem fnGetattr : typeLookup (.type "function") "__getattr__" = pure none := by rw [typeLookup_type, builtinLookup_eq_fast]; kernel_rfl
theorem fnGa : PySem.Slot "function" "__getattribute__" "object.__getattribute__" :=
  Slot.of (owner := "object") (n := "__getattribute__") fnGaLookup (by decide +kernel) (by decide +kernel) (by decide +kernel) (.inl (by decide +kernel)) (by rw [isSubtype_type]; kernel_rfl)
theorem ogaEntry : entryFor table "object.__getattribute__" = some Builtin.«object.__getattribute__» := entryFor_of_tree (by kernel_rfl)
theorem ogaArgs (a b : Value) : argsOk "object.__getattribute__" ⟨[a, b], []⟩ := by unfold argsOk; kernel_rfl
theorem fnSaLookup : typeLookup (.type "function") "__setattr__" = pure (some (.builtin "object.__setattr__")) := by rw [typeLookup_type, builtinLookup_eq_fast]; kernel_rfl
theorem fnSa : PySem.Slot "function" "__setattr__" "object.__setattr__" :=
  Slot.of (owner := "object") (n := "__setattr__") fnSaLookup (by decide +kernel) (by decide +kernel) (by decide +kernel) (.inl (by decide +kernel)) (by rw [isSubtype_type]; kernel_rfl)
theorem fnMro : mroOf (.type "function") = pure [.type "function", .type "object"] := by kernel_rfl
theorem fnPasses (self : Value) : refuseLoop self "__setattr__" [.type "function", .type "object"] = pure () := by kernel_rfl
theorem fnCanon : (Manifest.canonical "object.__getattribute__" != "object.__getattribute__") = false := by decide +kernel

theorem fnBool : typeLookup (.type "function") "__bool__" = pure none := by rw [typeLookup_type, builtinLookup_eq_fast]; kernel_rfl
theorem fnLen : typeLookup (.type "function") "__len__" = pure none := by rw [typeLookup_type, builtinLookup_eq_fast]; kernel_rfl
theorem fnHasDict : typeHasDict (.type "function") = true := by decide +kernel
theorem fnFinal : finalisedInACycleAlone "function" = false := by decide +kernel

theorem ogaSlot (x y : Value) : slotArgs "__getattribute__" 1 ⟨[x, y], []⟩ = pure (x, [y]) := by kernel_rfl

section
variable {prog : Program} {w : World} {A : Around} {E : Value → Shared → Prop} {s : Shared} {a d : Addr} {o : Obj} {fd : FuncData} {es : List DictEntry} {m : Nat} {name : Str} {v : Value}

theorem looks_fnType {M : Model} {h : Heap} (ho : h.get? a = some o) (hc : o.cls = .type "function") : Looks M h (typeOf (.ref a)) (.type "function") := hc ▸ (Looks.ld ho).andThen .now

theorem looks_fnFind {M : Model} {h : Heap} (ho : h.get? a = some o) (hc : o.cls = .type "function") (hf : o.data = .func fd) (hd : o.dict = some d) (hdd : h.get? d = some (dictOf es m)) (hn : typeLookup (.type "function") name = pure none) (hl : getL name es = some (some v)) :
    Looks M h (find (.ref a) (.type "function") name) (.value v) := by
  refine (Looks.of_pure hn).andThen (Looks.now.andThen (Looks.now.andThen ?_))
  show Looks M h (ownThenClass (.ref a) name none none) (.value v)
  refine Looks.andThen (a := some v) ?_ (Looks.tag .now)
  refine Looks.andThen (a := some d) ?_ ?_
  · refine Looks.andThen (a := o) (Looks.ld ho) ?_
    rw [hf]
    refine Looks.andThen (a := o) (Looks.ld ho) ?_
    rw [hc, hd]
    exact .now
  · exact (Looks.ld hdd).andThen (Looks.of_pure (nsLook_of ((lookIn_dict name es m).trans hl)))

theorem getAttr_fn {expr : Bool} {Q : Value → Shared → Prop} (ho : s.heap.get? a = some o) (hc : o.cls = .type "function") (hf : o.data = .func fd) (hd : o.dict = some d) (hdd : s.heap.get? d = some (dictOf es m)) (hn : typeLookup (.type "function") name = pure none)
    (hl : getL name es = some (some v)) (hh : handedIn v = true) (h : Q v { s with toks := s.toks + 1 }) : wpAny (model prog w) A (getAttr (.ref a) name expr) Q E s := by
  have L0 := looks_fnType (M := model prog w) ho hc
  have L1 := looks_fnFind (M := model prog w) ho hc hf hd hdd hn hl
  refine wpAny_bind (wpAny_mkText (wpAny_holding (wpAny_bind (L0 _ _ _ _ (fun _ _ e => e) (wpAny_bind (wpAny_of_eq fnGaLookup ?_))))))
  show wpAny _ _ (getAttrByItsOwn _ _ _ _ _ _) _ _ _
  refine wpAny_bind (wpAny_pure (wpAny_bind (wpAny_attempt (wpAny_holding ?_))))
  unfold callGetattribute
  rw [show (expr && onTheHeap (Value.builtin "object.__getattribute__")) = false from Bool.and_false _, if_neg (by decide)]
  unfold boundAndCalled
  rw [fnGa.bind]
  refine wpAny_bind (wpAny_pure ?_)
  show wpAny _ _ (call (.builtin "object.__getattribute__") [.ref a, .str name s.toks]) _ _ _
  refine wpAny_call (codeAny_call_builtin fnGa.plain ogaEntry (fnGa.check _ _ _ _ _ _ _ _ ⟨o, ho, hc⟩ (ogaArgs _ _) ?_))
  unfold Builtin.«object.__getattribute__»
  refine wpAny_bind (wpAny_of_eq (ogaSlot _ _) ?_)
  refine wpAny_bind (wpAny_pure (wpAny_bind (L0 _ _ _ _ (fun _ _ e => e) (wpAny_bind (L1 _ _ _ _ (fun _ _ e => e) (wpAny_pure ?_))))))
  show wpAny _ _ (handedOut v) _ _ _
  rw [handedOut_of hh]; exact wpAny_pure h

theorem getMethod_fn {pl : Sem Bool} {Q : Value × List Value → Shared → Prop} (ho : s.heap.get? a = some o) (hc : o.cls = .type "function") (hf : o.data = .func fd) (hd : o.dict = some d) (hdd : s.heap.get? d = some (dictOf es m)) (hn : typeLookup (.type "function") name = pure none)
    (hl : getL name es = some (some v)) (hh : handedIn v = true) (h : Q (v, []) { s with toks := s.toks + 1 }) : wpAny (model prog w) A (getMethod (.ref a) name pl) Q E s := by
  have L0 := looks_fnType (M := model prog w) ho hc
  unfold getMethod specialOf
  refine wpAny_bind (wpAny_bind (L0.here (wpAny_of_eq fnGaLookup ?_)))
  dsimp only
  rw [fnCanon, if_neg (by decide)]
  refine wpAny_bind (wpAny_bind (L0.here (wpAny_of_eq fnGetattr ?_)))
  refine wpAny_bind (wpAny_bind (L0.here (wpAny_of_eq hn ?_)))
  exact wpAny_bind (getAttr_fn ho hc hf hd hdd hn hl hh (wpAny_pure h))

theorem truthy_fn {Q : Bool → Shared → Prop} (ho : s.heap.get? a = some o) (hc : o.cls = .type "function") (h : Q true s) : wpAny (model prog w) A (truthy (.ref a)) Q E s := by
  have L0 := looks_fnType (M := model prog w) ho hc
  unfold truthy
  refine wpAny_bind ?_
  unfold callSpecial? specialOf
  refine wpAny_bind (wpAny_bind (L0.here (wpAny_of_eq fnBool ?_)))
  refine wpAny_pure (wpAny_bind (wpAny_bind (L0.here (wpAny_of_eq fnLen ?_))))
  exact wpAny_pure h

theorem setAttr_fn {Q : Unit → Shared → Prop} (ho : s.heap.get? a = some o) (hc : o.cls = .type "function") (hf : o.data = .func fd) (hd : o.dict = none) (hn : typeLookup (.type "function") name = pure none)
    (h : ∀ h' tk es m, (∀ b x, b ≠ a → s.heap.get? b = some x → h'.get? b = some x) → h'.get? a = some { o with dict := some s.heap.objs.size } → h'.get? s.heap.objs.size = some (dictOf es m) →
      (∃ hsh t, es = [⟨hsh, .str name t, v⟩]) → Q () { s with heap := h', toks := tk }) :
    wpAny (model prog w) A (setAttr (.ref a) name v) Q E s := by
  have L0 := looks_fnType (M := model prog w) ho hc
  have SF := PySem.F.store_object
  refine wpAny_bind (wpAny_mkText (wpAny_bind (wpAny_bind (wpAny_bind (L0 _ _ _ _ (fun _ _ e => e) (wpAny_of_eq fnSaLookup (wpAny_holding ?_)))))))
  rw [fnSa.bind]
  refine wpAny_bind (wpAny_pure (wpAny_bind (wpAny_call (codeAny_call_builtin SF.slot.plain SF.entry (fnSa.check _ _ _ _ _ _ _ _ ⟨o, ho, hc⟩ (SF.args _ _ _) ?_)))))
  show wpAny _ _ (Builtin.«object.__setattr__» ⟨[.ref a, .str name s.toks, v], []⟩) _ _ _
  rw [osa_eq, refuse_eq]
  refine wpAny_bind (wpAny_bind (L0 _ _ _ _ (fun _ _ e => e) (wpAny_bind (wpAny_of_eq fnMro ?_))))
  rw [fnPasses]
  refine wpAny_pure (wpAny_bind (L0 _ _ _ _ (fun _ _ e => e) (wpAny_bind (wpAny_of_eq hn (wpAny_bind (wpAny_pure ?_))))))
  show wpAny _ _ (storeInOwnDict (.ref a) (.type "function") (.str name s.toks) name v false) _ _ _
  refine wpAny_bind (wpAny_pure (wpAny_bind (wpAny_bind (wpAny_loadPart ho ?_))))
  rw [hc, hd]
  dsimp only
  rw [fnHasDict, hf]
  refine wpAny_bind (wpAny_alloc ?_)
  have ho1 : (s.heap.push emptyDict).get? a = some o := Heap.get?_push_of_some _ ho
  have hd1 : (s.heap.push emptyDict).get? s.heap.objs.size = some emptyDict := Heap.get?_push_size _ rfl
  have hne : s.heap.objs.size ≠ a := Ne.symm (Nat.ne_of_lt (Heap.lt_size ho))
  refine wpAny_bind (wpAny_update ho1 ?_)
  have ho2 := Heap.get?_update_self (fun o : Obj => { o with dict := some s.heap.objs.size }) ho1 (by obtain ⟨_, _, dd, _⟩ := o; cases hf; rfl)
  have hd2 : ((s.heap.push emptyDict).update a fun o : Obj => { o with dict := some s.heap.objs.size }).get? s.heap.objs.size = some (dictOf [] 0) := (Heap.get?_update_ne _ _ _ _ hne).trans hd1
  unfold dictMade
  dsimp only
  rw [fnFinal]
  refine wpAny_pure (a := some s.heap.objs.size) (wpAny_bind (wpAny_pure (wpAny_bind ?_)))
  unfold nsSet
  refine wpAny_bind (wpAny_bind (wpAny_askSetting (wpAny_pure (wpAny_bind (wpAny_mkText (wpAny_bind (wpAny_loadPart hd2 ?_)))))))
  dsimp only
  have c : (!([] : List DictEntry).toArray.any (·.key.isStr name) && ([] : List DictEntry).toArray.any (·.refKey)) = false := by simp
  rw [aRefKeyMayBeTheName_at, c]
  refine wpAny_updatePart hd2 ?_
  have U := putName_dict name (PyData.keyHash w.params name) (.str name (s.toks + 1)) v [] 0
  have D' := Heap.get?_update_self (Obj.putName name (PyData.keyHash w.params name) (.str name (s.toks + 1)) v) hd2 (by rw [U]; rfl)
  rw [U] at D'
  refine wpAny_bind (wpAny_lookBehind D' (pastItsLine_dict (by rw [List.size_toArray, sizeLine_eq]; simp [putL])) ?_)
  refine wpAny_pure (wpAny_pure (wpAny_pure (h _ _ _ _ (fun b x hb e => ?_) ?_ D' ⟨_, _, rfl⟩)))
  · have hb2 : b ≠ s.heap.objs.size := Nat.ne_of_lt (Heap.lt_size e)
    exact (Heap.get?_update_ne _ _ _ _ hb2).trans ((Heap.get?_update_ne _ _ _ _ hb).trans (Heap.get?_push_of_some _ e))
  · exact (Heap.get?_update_ne _ _ _ _ (Ne.symm hne)).trans ho2
end
end Mine

set_option tactic.hygienic false
set_option maxRecDepth 10000
namespace Mine
open PySem PySem.W PyProof.Rows

theorem codeAmong_app {x pos : Pos} {c : Value} (l : List Value) (h : TriplesOk l) :
    codeAmong x (l ++ [rawInt pos.line, rawInt pos.col, c]) = match codeAmong x l with | some v => some v | none => if pos.line = x.line ∧ pos.col = x.col then some c else none := by
  fun_induction TriplesOk l with
  | case1 =>
    show codeAmong x [rawInt pos.line, rawInt pos.col, c] = _
    simp only [codeAmong, rawInt]
    by_cases q : pos.line = x.line ∧ pos.col = x.col
    · rw [if_pos q, if_pos (by simp [q.1, q.2])]
    · rw [if_neg q, if_neg (by
        simp only [Bool.and_eq_true, beq_iff_eq]
        rintro ⟨h1, h2⟩
        exact q ⟨Int.ofNat.inj h1, Int.ofNat.inj h2⟩)]
  | case2 a b c' d e r ih =>
    simp only [List.cons_append, codeAmong]
    split
    · rfl
    · exact ih h
  | case3 => exact h.elim
theorem triples_app {l : List Value} {a b : Nat} {c : Value} (h : TriplesOk l) : TriplesOk (l ++ [rawInt a, rawInt b, c]) := by
  fun_induction TriplesOk l with
  | case1 => exact trivial
  | case2 a b c' d e r ih => exact ih h
  | case3 => exact h.elim


structure MakerOk (C : Cx) (mg : Str → Option Value) (t : TabSpec) : Prop where
  mem : t ∈ C.tabs
  uniq : ∀ t' ∈ C.tabs, t'.P = t.P → t' = t
  hd : CodeHd C.base t.c t.P
  g : C.base.Ns mainGlobals mg
  b : ∃ bm ob, mg "__builtins__" = some (.ref bm) ∧ bm ≠ builtinsNs ∧ C.base.get? bm = some ob ∧ ob.cls = .type "module" ∧ ob.dict = some builtinsNs ∧ ob.data = .plain

section
variable {C : Cx} {fr : Shape} {n : Nat} {vals vals' : List Slot} {mg : Str → Option Value} {t : TabSpec}

theorem make_fn {A : Around} {E : Value → Shared → Prop} {S : ASet} {s : Shared} {env : Env} {name qual : Str} {params : Arguments} {body : FuncBody} {scope : Scope} {clos : List (Str × Addr)} {dV : Value} {pos : Pos} {firstLine : Nat} {Q : Value → Shared → Prop}
    (T : MakerOk C mg t) (I : Inv C S s) (hcode : env.code = .ref t.c) (hglob : env.globals = mainGlobals) (hm : (pos, qual) ∈ t.made) (hu : ∀ x ∈ t.made, pos.line = x.1.line → pos.col = x.1.col → x.2 = qual) (hcl : closureFor scope env = pure clos)
    (h : ∀ f c' ctv doc S' s', Grow C S s S' s' → s.heap.get? f = none → ¬ S' f → s'.heap.get? f = some (kdv_obj name qual params body scope clos dV doc ((mg "__name__").getD .none) c' ctv) → S' c' → s'.heap.CodeRec (.ref c') qual → Q (.ref f) s') :
    wpAny C.M A (makeTail name qual params body scope env dV .none none pos firstLine) Q E s := by
  obtain ⟨ps, hP, htr, hmade⟩ := I.tab t T.mem
  have kb : ∀ b o, C.base.get? b = some o → s.heap.get? b = some o := fun b o e => (I.base b o e).1
  have nb : ∀ b o, C.base.get? b = some o → b ≠ t.P := fun b o e q => I.notab b (I.base b o e).2 ⟨t, T.mem, q.symm⟩
  have hg := T.g.keeps kb
  have hgP : mainGlobals ≠ t.P := by obtain ⟨o, es, ep, e, _⟩ := T.g; exact nb _ _ e
  have hb : s.heap.BuiltinsAt mg t.P := by
    obtain ⟨bm, ob, b1, b2, b3, b4⟩ := T.b
    refine ⟨bm, ob, b1, b2, fun q => ?_, nb _ _ b3, kb _ _ b3, b4⟩
    obtain ⟨o, es, ep, e, hd, _⟩ := T.g
    rw [q, e] at b3; cases b3; rw [hd] at b4; exact nomatch b4.2.2
  cases hf : codeAmong pos ps.toList with
  | some cv =>
    rcases hmade (pos, qual) hm with q | ⟨c', q, hS, hrec⟩
    · rw [hf] at q; cases q
    · have q' : cv = .ref c' := by rw [hf] at q; exact Option.some.inj q
      subst q'
      refine kdv_makeTailHit (mg := mg) hcl hglob hg hcode (T.hd.keeps kb) hP htr hf hb fun ctv doc h' tk hk hsz => ?_
      have hk' : ∀ b o, s.heap.get? b = some o → (h'.push (kdv_obj name qual params body scope clos dV doc ((mg "__name__").getD .none) c' ctv)).get? b = some o := fun b o e => Heap.get?_push_of_some _ (hk b o e)
      have g : Grow C S s S { s with heap := h'.push (kdv_obj name qual params body scope clos dV doc ((mg "__name__").getD .none) c' ctv), toks := tk } := grow_of_kept (tk := tk) I hk' (fun _ h => h) fun _ h => .inl h
      refine h h'.objs.size c' ctv doc S _ g ?_ ?_ (Heap.get?_push_size _ rfl) hS (hrec.keeps hk')
      · exact Heap.get?_none_of_le hsz
      · intro q; have := I.live _ q; rw [Heap.get?_none_of_le hsz] at this; cases this
  | none =>
    refine kdv_makeTail (mg := mg) hcl hglob hg hcode (T.hd.keeps kb) hP htr hf hgP hb fun c' ctv doc h' tk hx hge hlt hrec htb => ?_
    have hk' : ∀ b o, b ≠ t.P → s.heap.get? b = some o → (h'.push (kdv_obj name qual params body scope clos dV doc ((mg "__name__").getD .none) c' ctv)).get? b = some o := fun b o hb e => Heap.get?_push_of_some _ (hx b o hb e)
    have hrec' := hrec.push (kdv_obj name qual params body scope clos dV doc ((mg "__name__").getD .none) c' ctv)
    have hsz : s.heap.objs.size ≤ h'.objs.size := Nat.le_trans hge (Nat.le_of_lt hlt)
    have nc : ¬ liveIn s.heap c' := not_live (Heap.get?_none_of_le hge)
    have lc : liveIn (h'.push (kdv_obj name qual params body scope clos dV doc ((mg "__name__").getD .none) c' ctv)) c' := by
      obtain ⟨c2, o, vs, tt, e, g, _⟩ := hrec'; cases e; exact live_of g
    have nSf : ¬ (S h'.objs.size ∨ h'.objs.size = c') := by
      rintro (q | q)
      · have := I.live _ q; rw [Heap.get?_none_of_le hsz] at this; cases this
      · exact Nat.ne_of_gt hlt q
    have g : Grow C S s (fun a => S a ∨ a = c') { s with heap := h'.push (kdv_obj name qual params body scope clos dV doc ((mg "__name__").getD .none) c' ctv), toks := tk } := by
      refine ⟨⟨fun b o e => ⟨hk' _ _ (nb b o e) (kb b o e), .inl (I.base b o e).2⟩, fun b hb => ?_, fun t' ht' => ?_, fun b hb => ?_, I.gens, I.os⟩, fun _ h => .inl h, fun b hb => ?_, fun b o hb _ e => hk' _ _ (fun q => hb ⟨t, T.mem, q.symm⟩) e⟩
      · rcases hb with hb | rfl
        · obtain ⟨o, e⟩ := Option.isSome_iff_exists.mp (I.live b hb)
          exact live_of (hk' b o (fun q => I.notab b hb ⟨t, T.mem, q.symm⟩) e)
        · exact lc
      · by_cases q : t'.P = t.P
        · have := T.uniq t' ht' q
          subst this
          refine ⟨_, Heap.get?_push_of_some _ htb, ?_, fun x hx' => ?_⟩
          · rw [Array.toList_append]; exact triples_app htr
          · rw [Array.toList_append]
            show codeAmong x.1 (ps.toList ++ [rawInt pos.line, rawInt pos.col, .ref c']) = none ∨ _
            rw [codeAmong_app _ htr]
            rcases hmade x hx' with q2 | ⟨c2, q2, q3, q4⟩
            · rw [q2]
              dsimp only
              by_cases q3 : pos.line = x.1.line ∧ pos.col = x.1.col
              · refine .inr ⟨c', ?_, .inr rfl, ?_⟩
                · exact if_pos q3
                · rw [hu x hx' q3.1 q3.2]; exact hrec'
              · exact .inl (if_neg q3)
            · refine .inr ⟨c2, ?_, .inl q3, ?_⟩
              · rw [q2]
              · obtain ⟨c3, o, vs, tt, e, g, r⟩ := q4
                cases e
                exact ⟨c2, o, vs, tt, rfl, hk' _ _ (fun q => I.notab c2 q3 ⟨t', ht', q.symm⟩) g, r⟩
        · exact (I.tab t' ht').move (fun o e => hk' _ _ q e) (fun _ h => .inl h) fun b o hb e => hk' _ _ (fun q => I.notab b hb ⟨t, T.mem, q.symm⟩) e
      · rcases hb with hb | rfl
        · exact I.notab b hb
        · rintro ⟨t', ht', q⟩
          obtain ⟨ps', e, _⟩ := I.tab t' ht'
          exact nc (q ▸ live_of e)
      · rcases hb with hb | rfl
        · exact .inl hb
        · exact .inr nc
    exact h h'.objs.size c' ctv doc _ _ g (Heap.get?_none_of_le hsz) nSf (Heap.get?_push_size _ rfl) (.inr rfl) hrec'

end
end Mine

set_option tactic.hygienic false
set_option maxRecDepth 10000
namespace Mine
open PySem PySem.W PyProof.Rows

noncomputable def CellAt (S : ASet) (h : Heap) (a : Str × Addr) (b : Str × VP) : Prop := a.1 = b.1 ∧ S a.2 ∧ ∃ v, h.IsCell a.2 (some v) ∧ b.2.P S h v
noncomputable def CellsOk (S : ASet) (h : Heap) : List (Str × Addr) → List (Str × VP) → Prop
  | [], [] => True
  | a :: r, b :: q => CellAt S h a b ∧ CellsOk S h r q
  | _, _ => False
theorem CellsOk.ind {S : ASet} {h : Heap} {P : List (Str × Addr) → List (Str × VP) → Prop} (hn : P [] []) (hc : ∀ a r b q, CellAt S h a b → CellsOk S h r q → P r q → P (a :: r) (b :: q)) : ∀ {as : List (Str × Addr)} {bs : List (Str × VP)}, CellsOk S h as bs → P as bs := by
  intro as
  induction as with
  | nil =>
    intro bs x
    cases bs with
    | nil => exact hn
    | cons p ps => exact x.elim
  | cons v vs ih =>
    intro bs x
    cases bs with
    | nil => exact x.elim
    | cons p ps => exact hc v vs p ps x.1 x.2 (ih x.2)
theorem CellsOk.mono {S S' : ASet} {h : Heap} (hs : ∀ a, S a → S' a) {as : List (Str × Addr)} {bs : List (Str × VP)} (x : CellsOk S h as bs) : CellsOk S' h as bs :=
  CellsOk.ind (P := fun as bs => CellsOk S' h as bs) trivial (fun _ _ b _ x _ z => ⟨by obtain ⟨e, x, v, y, w⟩ := x; exact ⟨e, hs _ x, v, y, b.2.mono hs w⟩, z⟩) x
theorem CellsOk.keep {S : ASet} {h h' : Heap} (hk : ∀ a o, S a → h.get? a = some o → h'.get? a = some o) {as : List (Str × Addr)} {bs : List (Str × VP)} (x : CellsOk S h as bs) : CellsOk S h' as bs :=
  CellsOk.ind (P := fun as bs => CellsOk S h' as bs) trivial (fun _ _ b _ x _ z => ⟨by obtain ⟨e, x, v, ⟨o, y, y'⟩, w⟩ := x; exact ⟨e, x, v, ⟨o, hk _ _ x y, y'⟩, b.2.keep hk w⟩, z⟩) x
theorem CellsOk.all {S : ASet} {h : Heap} {as : List (Str × Addr)} {bs : List (Str × VP)} (x : CellsOk S h as bs) (n : Str) (c : Addr) : as.lookup n = some c → ∃ v, h.IsCell c v :=
  CellsOk.ind (P := fun as _ => as.lookup n = some c → ∃ v, h.IsCell c v) (fun e => by cases e) (fun a r b q x _ ih e => by
    rw [show (a :: r).lookup n = _ from List.lookup_cons] at e
    cases hq : (n == a.1) with
    | true => rw [hq] at e; cases e; obtain ⟨_, _, v, y, _⟩ := x; exact ⟨_, y⟩
    | false => rw [hq] at e; exact ih e) x
theorem CellsOk.get {S : ASet} {h : Heap} {as : List (Str × Addr)} {bs : List (Str × VP)} (x : CellsOk S h as bs) : (bs.map (·.1)).Nodup → ∀ (i : Nat) (b : Str × VP), bs[i]? = some b → ∃ c v, as.lookup b.1 = some c ∧ h.IsCell c (some v) ∧ b.2.P S h v :=
  CellsOk.ind (P := fun as bs => (bs.map (·.1)).Nodup → ∀ (i : Nat) (b : Str × VP), bs[i]? = some b → ∃ c v, as.lookup b.1 = some c ∧ h.IsCell c (some v) ∧ b.2.P S h v) (fun _ i b e => by rw [List.getElem?_nil] at e; cases e) (fun a r b q x _ ih hn i b' e => by
    obtain ⟨h1, h2⟩ := List.nodup_cons.mp hn
    obtain ⟨e1, _, v, y, z⟩ := x
    rw [show (a :: r).lookup b'.1 = _ from List.lookup_cons, e1]
    cases i with
    | zero =>
      rw [List.getElem?_cons_zero] at e; cases e
      exact ⟨a.2, v, by rw [beq_self_eq_true], y, z⟩
    | succ i =>
      rw [List.getElem?_cons_succ] at e
      have : (b'.1 == b.1) = false := beq_eq_false_iff_ne.mpr fun w => h1 (List.mem_map.mpr ⟨b', List.mem_of_getElem? e, w⟩)
      rw [this]; exact ih h2 i b' e) x

noncomputable def DfltOk (S : ASet) (h : Heap) (dV : Value) : Option (List VP) → Prop
  | none => dV = .none
  | some ps => ∃ t vs, dV = .ref t ∧ S t ∧ h.get? t = some (kdv_tup vs) ∧ All2 S h vs ps


structure CloAt (name qual : Str) (params : Arguments) (body : FuncBody) (scope : Scope) (dflt : Option (List VP)) (cells : List (Str × VP)) (S : ASet) (h : Heap) (f : Addr) (clos : List (Str × Addr)) (dV : Value) (doc pm : Value) (c' : Addr) (ctv : Value) : Prop where
  sf : S f
  gf : h.get? f = some (kdv_obj name qual params body scope clos dV doc pm c' ctv)
  sc : S c'
  rec_ : h.CodeRec (.ref c') qual
  dfl : DfltOk S h dV dflt
  cel : CellsOk S h clos cells
theorem DfltOk.mono {S S' : ASet} {h : Heap} {dV : Value} {dflt : Option (List VP)} (hs : ∀ a, S a → S' a) (x : DfltOk S h dV dflt) : DfltOk S' h dV dflt := by
  cases dflt with
  | none => exact x
  | some ps => obtain ⟨t, vs, q1, q2, q3, q4⟩ := x; exact ⟨t, vs, q1, hs _ q2, q3, q4.mono hs⟩
theorem DfltOk.keep {S : ASet} {h h' : Heap} {dV : Value} {dflt : Option (List VP)} (hk : ∀ a o, S a → h.get? a = some o → h'.get? a = some o) (x : DfltOk S h dV dflt) : DfltOk S h' dV dflt := by
  cases dflt with
  | none => exact x
  | some ps => obtain ⟨t, vs, q1, q2, q3, q4⟩ := x; exact ⟨t, vs, q1, q2, hk _ _ q2 q3, q4.keep hk⟩
theorem codeRec_keep {S : ASet} {h h' : Heap} {c : Addr} {qual : Str} (hk : ∀ a o, S a → h.get? a = some o → h'.get? a = some o) (hc : S c) (x : h.CodeRec (.ref c) qual) : h'.CodeRec (.ref c) qual := by
  obtain ⟨c, o, vs, t, e1, e2, r⟩ := x; cases e1; exact ⟨_, o, vs, t, rfl, hk _ _ hc e2, r⟩
noncomputable def vClo (name qual : Str) (params : Arguments) (body : FuncBody) (scope : Scope) (dflt : Option (List VP)) (cells : List (Str × VP)) : VP where
  P := fun S h v => ∃ f clos dV doc pm c' ctv, v = .ref f ∧ CloAt name qual params body scope dflt cells S h f clos dV doc pm c' ctv
  mono := fun hs x => by
    obtain ⟨f, clos, dV, doc, pm, c', ctv, e, H⟩ := x
    exact ⟨f, clos, dV, doc, pm, c', ctv, e, ⟨hs _ H.sf, H.gf, hs _ H.sc, H.rec_, H.dfl.mono hs, H.cel.mono hs⟩⟩
  keep := fun hk x => by
    obtain ⟨f, clos, dV, doc, pm, c', ctv, e, H⟩ := x
    exact ⟨f, clos, dV, doc, pm, c', ctv, e, ⟨H.sf, hk _ _ H.sf H.gf, H.sc, codeRec_keep hk H.sc H.rec_, H.dfl.keep hk, H.cel.keep hk⟩⟩


structure FunAt (attrs : List (Str × VP)) (S : ASet) (h : Heap) (f : Addr) (o : Obj) (fd : FuncData) (d : Addr) (es : List DictEntry) (m : Nat) : Prop where
  sf : S f
  sd : S d
  gf : h.get? f = some o
  cls : o.cls = .type "function"
  data : o.data = .func fd
  dict : o.dict = some d
  gd : h.get? d = some (dictOf es m)
  ats : AttrsOk S h es attrs
noncomputable def vFun (attrs : List (Str × VP)) : VP where
  P := fun S h v => ∃ f o fd d es m, v = .ref f ∧ FunAt attrs S h f o fd d es m
  mono := fun hs x => by
    obtain ⟨f, o, fd, d, es, m, e, H⟩ := x
    exact ⟨f, o, fd, d, es, m, e, ⟨hs _ H.sf, hs _ H.sd, H.gf, H.cls, H.data, H.dict, H.gd, H.ats.mono hs⟩⟩
  keep := fun hk x => by
    obtain ⟨f, o, fd, d, es, m, e, H⟩ := x
    exact ⟨f, o, fd, d, es, m, e, ⟨H.sf, H.sd, hk _ _ H.sf H.gf, H.cls, H.data, H.dict, hk _ _ H.sd H.gd, H.ats.keep hk⟩⟩


noncomputable def cloVals (ps : List VP) (k : Nat) (cells : List (Str × VP)) : List Slot := ps.map .val ++ (List.replicate k .un ++ cells.map fun c => .val c.2)

structure CloShape (scope : Scope) (xs locs : List Str) (cn : List Str) : Prop where
  kind : scope.kind = .function
  co : scope.isCoroutine = false
  gen : scope.isGenerator = false
  nocell : ∀ x ∈ scope.names, x.2 ≠ .cell
  par : ∀ x ∈ xs, scope.names.lookup x = some .local
  fre : ∀ x ∈ cn, scope.names.lookup x = some .free
  nodup : (xs ++ (locs ++ cn)).Nodup

theorem lookup_rev_zip : ∀ (xs : List Str) (vs : List Value) (hn : xs.Nodup) (i : Nat) (x : Str) (v : Value), xs[i]? = some x → vs[i]? = some v → (xs.zip vs).reverse.lookup x = some v
  | [], _, _, i, _, _, e, _ => by simp at e
  | _ :: _, [], _, i, _, _, _, e => by simp at e
  | y :: r, u :: vs, hn, i, x, v, e1, e2 => by
    obtain ⟨h1, h2⟩ := List.nodup_cons.mp hn
    rw [List.zip_cons_cons, List.reverse_cons, List.lookup_append]
    cases i with
    | zero =>
      simp at e1 e2; subst e1 e2
      have : (r.zip vs).reverse.lookup y = none := by
        rw [List.lookup_eq_none_iff]
        intro p hp
        have := (List.of_mem_zip (a := p.1) (b := p.2) (List.mem_reverse.mp hp)).1
        have q : p.1 ≠ y := fun q => h1 (q ▸ this)
        simpa using fun e => q (by rw [e])
      rw [this]; simp
    | succ i =>
      simp at e1 e2
      rw [lookup_rev_zip r vs h2 i x v e1 e2]; rfl

section
variable {C : Cx} {n : Nat}

theorem clo_frame {scope : Scope} {xs locs : List Str} {cells : List (Str × VP)} {ps : List VP} {A : Around} {S : ASet} {s : Shared} {clos : List (Str × Addr)} {vs : List Value} {h' : Heap} {fd : FuncData} {f : Addr} {tk : Nat}
    (Z : CloShape scope xs locs (cells.map (·.1))) (I : Inv C S s) (hA : AOk (n + 1) A) (hsc : fd.scope = scope) (hcl : fd.closure = clos) (hgl : fd.globals = mainGlobals) (hbu : fd.builtins = builtinsNs) (hc : CellsOk S s.heap clos cells) (hx : All2 S s.heap vs ps) (hl : ps.length = xs.length)
    (hns : h'.Ns s.heap.objs.size (fun x => (xs.zip vs).reverse.lookup x)) (hk : ∀ b o, s.heap.get? b = some o → h'.get? b = some o) :
    FrameOk C ⟨scope, xs ++ (locs ++ cells.map (·.1)), []⟩ n (liveIn s.heap) (callEnv fd s.heap.objs.size f) (A.deeper (callEnv fd s.heap.objs.size f)) S { s with heap := h', toks := tk } (cloVals ps locs.length cells) := by
  have g : Grow C S s S { s with heap := h', toks := tk } := grow_of_kept I hk (fun _ h => h) fun _ h => .inl h
  have fresh : s.heap.get? s.heap.objs.size = none := Heap.get?_none_of_le (Nat.le_refl _)
  have hc' : CellsOk S h' clos cells := hc.keep fun b o _ e => hk b o e
  obtain ⟨n1, n2, n3⟩ := List.nodup_append.mp Z.nodup
  obtain ⟨n4, n5, n6⟩ := List.nodup_append.mp n2
  refine ⟨g.inv, hsc, by show fd.scope.kind = _; rw [hsc]; exact Z.kind, hgl, hbu, hA.deeper _, fun _ h => g.alive h, ⟨_, hns⟩, ⟨fun q => ?_, not_live fresh⟩, fun x c q => ?_, fun x q => (nomatch q), fun x q => (nomatch q), fun _ => 0, ?_, fun i x t hy ht => ?_, fun i j l l' hi _ _ => ?_⟩
  · have := I.live _ q
    have q2 : (s.heap.get? s.heap.objs.size).isSome = true := this
    rw [fresh] at q2; cases q2
  · have q2 : clos.lookup x = some c := by rw [← hcl]; exact q
    exact hc'.all x c q2
  · simp only [cloVals, List.length_append, List.length_map, List.length_replicate, hl]
  · unfold cloVals at ht
    rw [List.getElem?_append] at ht
    split at ht
    · rename_i hi
      rw [List.getElem?_map] at ht
      rw [List.length_map] at hi
      cases e : ps[i]? with
      | none => rw [e] at ht; cases ht
      | some p =>
        rw [e] at ht; cases ht
        obtain ⟨v, hv, hpv⟩ := hx.get e
        have hy' : xs[i]? = some x := by rw [List.getElem?_append_left (by rw [← hl]; exact hi)] at hy; exact hy
        refine ⟨v, .inl ⟨?_, _, hns, lookup_rev_zip xs vs n1 i x v hy' hv⟩, p.keep (fun b o _ e => hk b o e) hpv⟩
        show fd.scope.names.lookup x = some .local
        rw [hsc]; exact Z.par x (List.mem_of_getElem? hy')
    · rename_i hi
      rw [List.length_map] at ht hi
      rw [List.getElem?_append] at ht
      split at ht
      · have := List.eq_of_mem_replicate (List.mem_of_getElem? ht); subst this; trivial
      · rename_i hi2
        rw [List.length_replicate] at ht hi2
        rw [List.getElem?_map] at ht
        cases e : cells[i - ps.length - locs.length]? with
        | none => rw [e] at ht; cases ht
        | some b =>
          rw [e] at ht; cases ht
          have hy' : x = b.1 := by
            rw [List.getElem?_append_right (by rw [← hl]; lia), List.getElem?_append_right (by rw [← hl]; lia), List.getElem?_map, ← hl, e] at hy
            exact (Option.some.inj hy).symm
          subst hy'
          obtain ⟨c, v, q1, q2, q3⟩ := hc'.get n5 _ b e
          refine ⟨v, .inr ⟨.inr ?_, c, ?_, q2⟩, q3⟩
          · show fd.scope.names.lookup b.1 = some .free
            rw [hsc]; exact Z.fre b.1 (List.mem_map_of_mem (List.mem_of_getElem? e))
          · show fd.closure.lookup b.1 = some c
            rw [hcl]; exact q1
  · unfold cloVals at hi
    have := List.mem_of_getElem? hi
    rcases List.mem_append.mp this with q | q
    · obtain ⟨p, _, e⟩ := List.mem_map.mp q; cases e
    · rcases List.mem_append.mp q with q | q
      · have := List.eq_of_mem_replicate q; cases this
      · obtain ⟨p, _, e⟩ := List.mem_map.mp q; cases e


noncomputable def CallG (C : Cx) (n : Nat) (q : VP) (ps : List VP) (r : VP) : Prop :=
  ∀ A S s f vs, Inv C S s → AOk n A → q.P S s.heap f → All2 S s.heap vs ps → Gives C A (call f vs) S s r

theorem CallG.expr {name qual : Str} {params : Arguments} {body : Expr} {scope : Scope} {cells : List (Str × VP)} {r : VP} (hlim : C.base.NoLimit) (Z : CloShape scope [] [] (cells.map (·.1)))
    (hb : ∀ fd : FuncData, fd.params = params → fd.defaults = .none → fd.kwdefaults = .none → bindArgs fd ⟨[], []⟩ = pure []) (h : Ev C ⟨scope, cells.map (·.1), []⟩ n (cells.map fun c => .val c.2) body r) : CallG C (n + 1) (vClo name qual params (.expr body) scope none cells) [] r :=
  fun A S s f vs I hA hf hx => by
    cases vs with
    | cons _ _ => exact hx.elim
    | nil =>
    obtain ⟨f, clos, dV, doc, pm, c', ctv, rfl, h1, h2, h3, h4, h5, h6⟩ := hf
    have kb : ∀ b o, C.base.get? b = some o → s.heap.get? b = some o := fun b o e => (I.base b o e).1
    refine wpAny_call (kla_callFunE (by have := hA.depth; lia) h2 rfl Z.co Z.gen rfl h4 ?_)
    rw [hb (kdv_fn name qual params (.expr body) scope clos dV doc pm (.ref c') ctv) rfl h5 rfl]
    refine wpAny_pure (wpAny_newFunctionEnv Z.nocell (fun x q => nomatch q) (fun h' hns hsb => ?_) Z.kind)
    have hk : ∀ b o, s.heap.get? b = some o → h'.get? b = some o := fun b o e => hsb.extBut b o (Nat.ne_of_lt (Heap.lt_size e)) (Heap.get?_push_of_some _ e)
    refine ⟨(hlim.keeps kb).keeps hk, kla_codeExpr ?_⟩
    have F := clo_frame (tk := s.toks + 0) (f := f) (fd := kdv_fn name qual params (.expr body) scope clos dV doc pm (.ref c') ctv) (xs := []) (locs := []) Z I hA rfl rfl rfl rfl h6 (vs := []) (ps := []) trivial rfl hns hk
    have g : Grow C S s S { s with heap := h', toks := s.toks + 0 } := grow_of_kept I hk (fun _ h => h) fun _ h => .inl h
    exact wpAny_mono (h _ _ _ _ _ F) (fun v s' ⟨S', g', x⟩ => ⟨S', g.trans g', x⟩) fun _ _ z => z.elim

theorem CallG.stmts {name qual : Str} {params : Arguments} {body : List Stmt} {scope : Scope} {dflt : Option (List VP)} {cells : List (Str × VP)} {xs locs : List Str} {ps ps' : List VP} {o : Out} {r : VP} (hlim : C.base.NoLimit) (Z : CloShape scope xs locs (cells.map (·.1))) (hl : ps'.length = xs.length)
    (hb : ∀ S s vs fd, fd.params = params → fd.kwdefaults = .none → DfltOk S s.heap fd.defaults dflt → All2 S s.heap vs ps → ∃ vs', All2 S s.heap vs' ps' ∧ BindsTo s fd ⟨vs, []⟩ (xs.zip vs'))
    (h : Ex C ⟨scope, xs ++ (locs ++ cells.map (·.1)), []⟩ n (cloVals ps' locs.length cells) body o) (he : Ends o r) : CallG C (n + 1) (vClo name qual params (.stmts body) scope dflt cells) ps r :=
  fun A S s f vs I hA hf hx => by
    obtain ⟨f, clos, dV, doc, pm, c', ctv, rfl, h1, h2, h3, h4, h5, h6⟩ := hf
    have kb : ∀ b o, C.base.get? b = some o → s.heap.get? b = some o := fun b o e => (I.base b o e).1
    obtain ⟨vs', hx', hbind⟩ := hb S s vs (kdv_fn name qual params (.stmts body) scope clos dV doc pm (.ref c') ctv) rfl rfl h5 hx
    have hlen : vs'.length = xs.length := hx'.length.trans hl
    refine wpAny_call (codeAny_call_def (fd := kdv_fn name qual params (.stmts body) scope clos dV doc pm (.ref c') ctv) (body := body) (binds := xs.zip vs') (by have := hA.depth; lia) h2 rfl (hlim.keeps kb) h4 rfl hbind Z.nocell
      (fun x q => Z.par x.1 (List.of_mem_zip (a := x.1) (b := x.2) q).1) (fun h' hns hk => ?_) Z.co Z.gen Z.kind)
    have F := clo_frame (tk := s.toks + (xs.zip vs').length) (f := f) (fd := kdv_fn name qual params (.stmts body) scope clos dV doc pm (.ref c') ctv) Z I hA rfl rfl rfl rfl h6 hx' hl hns hk
    have g : Grow C S s S { s with heap := h', toks := s.toks + (xs.zip vs').length } := grow_of_kept I hk (fun _ h => h) fun _ h => .inl h
    refine wpAny_mono (h _ _ _ _ _ F) (fun fl s' pq => ?_) fun _ _ z => z.elim
    obtain ⟨S', st, y⟩ := pq
    have g' : Grow C S s S' s' := Step.trans g st
    cases he with
    | ret p => cases fl <;> first | exact y.elim | exact ⟨S', g', y⟩
    | next v => cases fl <;> first | exact y.elim | exact ⟨S', g', rfl⟩

end
end Mine

set_option tactic.hygienic false
set_option maxRecDepth 10000
namespace Mine
open PySem PySem.W PyProof.Rows

theorem closure_go {env : Env} (cf : Str → Addr) (body : Str × NameKind → List (Str × Addr) → Sem (ForInStep (List (Str × Addr))))
    (hb : ∀ p acc, body p acc = if p.2 == .free then (do let c ← cellOf env p.1; pure (.yield ((p.1, c) :: acc))) else pure (.yield acc)) :
    ∀ (names : List (Str × NameKind)) (acc : List (Str × Addr)), (∀ p ∈ names, p.2 = .free → env.cells.lookup p.1 = some (cf p.1)) →
      (forIn names acc body : Sem _) = pure (((names.filter fun p => p.2 == .free).map fun p => (p.1, cf p.1)).reverse ++ acc)
  | [], acc, _ => by simp
  | p :: r, acc, h => by
    rw [List.forIn_cons, hb]
    have hr := fun acc => closure_go cf body hb r acc fun q hq => h q (.tail _ hq)
    cases e : (p.2 == NameKind.free) with
    | false =>
      rw [if_neg (by decide), List.filter_cons_of_neg (by rw [e]; decide), ← hr]; rfl
    | true =>
      rw [if_pos rfl, List.filter_cons_of_pos (by rw [e])]
      unfold cellOf
      rw [h p (.head _) (eq_of_beq e), List.map_cons, List.reverse_cons, List.append_assoc, List.singleton_append, ← hr]; rfl
theorem closureFor_eq {env : Env} {scope : Scope} (cf : Str → Addr) (h : ∀ p ∈ scope.names, p.2 = .free → env.cells.lookup p.1 = some (cf p.1)) :
    closureFor scope env = pure (((scope.names.filter fun p => p.2 == .free).map fun p => (p.1, cf p.1)).reverse) := by
  unfold closureFor
  dsimp only
  rw [closure_go cf _ (fun ⟨a, b⟩ acc => rfl) scope.names [] h, List.append_nil]
  rfl

section
variable {C : Cx} {fr : Shape} {n : Nat} {vals vals' : List Slot} {mg : Str → Option Value} {t : TabSpec}

theorem Inv.extend {S S' : ASet} {s : Shared} (I : Inv C S s) (hs : ∀ a, S a → S' a) (h : ∀ a, S' a → S a ∨ (liveIn s.heap a ∧ ¬ C.isTab a)) : Inv C S' s :=
  ⟨fun b o e => ⟨(I.base b o e).1, hs _ (I.base b o e).2⟩, fun a q => (h a q).elim (I.live a) (·.1), fun t ht => (I.tab t ht).move (fun _ e => e) hs fun _ _ _ e => e, fun a q => (h a q).elim (I.notab a) (·.2), I.gens, I.os⟩


theorem step_change {hb S : ASet} {s : Shared} {h' : Heap} {tk : Nat} {a : Addr} (I : Inv C S s) (hk : ∀ b x, b ≠ a → s.heap.get? b = some x → h'.get? b = some x) (nS : ¬ S a) (nt : ¬ C.isTab a) (nb : ¬ hb a) : Step C hb S s S { s with heap := h', toks := tk } where
  inv := ⟨fun b o e => ⟨hk _ _ (fun q => nS (q ▸ (I.base b o e).2)) (I.base b o e).1, (I.base b o e).2⟩, fun b q => by
      obtain ⟨o, e⟩ := Option.isSome_iff_exists.mp (I.live b q)
      exact live_of (hk b o (fun q' => nS (q' ▸ q)) e),
    fun t ht => (I.tab t ht).move (fun o e => hk _ _ (fun q => nt ⟨t, ht, q⟩) e) (fun _ h => h) fun b o q e => hk _ _ (fun q' => nS (q' ▸ q)) e, I.notab, I.gens, I.os⟩
  sub := fun _ h => h
  new := fun _ h => .inl h
  kept := fun b o _ q e => hk _ _ (fun q' => by subst q'; exact q.elim nb nS) e

theorem cellsOk_of {S : ASet} {h : Heap} (cf : Str → Addr) : ∀ (cells : List (Str × VP)), (∀ b ∈ cells, S (cf b.1) ∧ ∃ v, h.IsCell (cf b.1) (some v) ∧ b.2.P S h v) → CellsOk S h (cells.map fun b => (b.1, cf b.1)) cells
  | [], _ => trivial
  | b :: r, k => ⟨⟨rfl, (k b (.head _)).1, (k b (.head _)).2⟩, cellsOk_of cf r fun q hq => k q (.tail _ hq)⟩

noncomputable abbrev cellIn (env : Env) (x : Str) : Addr := (env.cells.lookup x).getD 0


noncomputable def CellSlots (fr : Shape) (vals : List Slot) (cells : List (Str × VP)) : Prop :=
  ∀ b ∈ cells, (∃ i : Nat, fr.names[i]? = some b.1 ∧ vals[i]? = some (.val b.2)) ∧ fr.scope.names.lookup b.1 = some .cell ∧ b.1 ∈ fr.cells

theorem CellSlots.at {hb env A S s} {cells : List (Str × VP)} (F : FrameOk C fr n hb env A S s vals) (H : CellSlots fr vals cells) : ∀ b ∈ cells, env.cells.lookup b.1 = some (cellIn env b.1) ∧ ¬ hb (cellIn env b.1) ∧ ¬ S (cellIn env b.1) ∧ ∃ v, s.heap.IsCell (cellIn env b.1) (some v) ∧ b.2.P S s.heap v := fun b hb' => by
  obtain ⟨⟨i, h1, h2⟩, h3, h4⟩ := H b hb'
  obtain ⟨c, e1, e2, e3⟩ := F.ownc b.1 h4
  have ec : cellIn env b.1 = c := by unfold cellIn; rw [e1]; rfl
  obtain ⟨f, _, hsl, _⟩ := F.slots
  obtain ⟨v, hv, hp⟩ := hsl i b.1 _ h1 h2
  refine ⟨by rw [e1, ec], by rw [ec]; exact e2, by rw [ec]; exact e3, v, ?_, hp⟩
  rcases hv with ⟨q, _⟩ | ⟨_, c', q1, q2⟩
  · rw [kindOf_eq, F.scope, h3] at q; cases q
  · rw [e1] at q1; cases q1; rw [ec]; exact q2

theorem CellSlots.closure {hb env A S s} {cells : List (Str × VP)} {scope : Scope} (F : FrameOk C fr n hb env A S s vals) (H : CellSlots fr vals cells) (hn : ((scope.names.filter fun p => p.2 == .free).map (·.1)).reverse = cells.map (·.1)) :
    closureFor scope env = pure (cells.map fun b => (b.1, cellIn env b.1)) := by
  rw [closureFor_eq (cellIn env)]
  · congr 1
    have := congrArg (List.map fun x => (x, cellIn env x)) hn
    rw [List.map_map, List.map_reverse, List.map_map] at this
    exact this
  · intro p hp hf
    have : p.1 ∈ cells.map (·.1) := by
      rw [← hn, List.mem_reverse]
      exact List.mem_map_of_mem (List.mem_filter.mpr ⟨hp, by rw [hf]; rfl⟩)
    obtain ⟨b, hb', e⟩ := List.mem_map.mp this
    rw [← e]; exact (H.at F b hb').1


theorem fun_finish {hb hb' : ASet} {env : Env} {A : Around} {S : ASet} {s : Shared} {cells : List (Str × VP)} {f0 f1 c' : Addr} {o0 : Obj} {fd0 : FuncData} {name qual attr : Str} {params : Arguments} {body : FuncBody} {scope : Scope} {dV doc pm ctv : Value} {dflt : Option (List VP)}
    (F : FrameOk C fr n hb' env A S s vals) (hle : ∀ b, hb b → hb' b) (H : CellSlots fr vals cells) (h0 : s.heap.get? f0 = some o0) (hc0 : o0.cls = .type "function") (hd0 : o0.data = .func fd0) (hn0 : o0.dict = none) (nS0 : ¬ S f0) (nb0 : ¬ hb f0)
    (h1 : s.heap.get? f1 = some (kdv_obj name qual params body scope (cells.map fun b => (b.1, cellIn env b.1)) dV doc pm c' ctv)) (nb1 : ¬ hb f1) (hne : f1 ≠ f0) (hS : S c') (hrec : s.heap.CodeRec (.ref c') qual) (hdf : DfltOk S s.heap dV dflt)
    (hty : typeLookup (.type "function") attr = pure none) :
    wpAny C.M A (setAttr (.ref f0) attr (.ref f1)) (fun _ s' => (∃ S', Step C hb S s S' s' ∧ (vFun [(attr, vClo name qual params body scope dflt cells)]).P S' s'.heap (.ref f0)) ∧ ∀ x v, Holds env s.heap x v → Holds env s'.heap x v) F0 s := by
  refine setAttr_fn h0 hc0 hd0 hn0 hty fun h' tk es m hk e0 ed hes => ?_
  have I := F.inv
  have nt0 : ¬ C.isTab f0 := I.notab_of h0 fun vs q => by rw [hd0] at q; cases q
  have nt1 : ¬ C.isTab f1 := I.notab_of h1 fun vs q => by cases q
  have fresh : s.heap.get? s.heap.objs.size = none := Heap.get?_none_of_le (Nat.le_refl _)
  have ntd : ¬ C.isTab s.heap.objs.size := fun pq => by
    obtain ⟨t, ht, q⟩ := pq
    obtain ⟨ps, e, _⟩ := I.tab t ht
    rw [q, fresh] at e; cases e
  have st : Step C hb S s S { s with heap := h', toks := tk } := step_change I hk nS0 nt0 nb0
  have cellNe : ∀ b ∈ cells, cellIn env b.1 ≠ f0 := fun b hb' q => by
    obtain ⟨_, _, _, v, ⟨o, e, hc⟩, _⟩ := H.at F b hb'
    rw [q, h0] at e; cases e; rw [hd0] at hc; cases hc
  let S' : ASet := fun a => S a ∨ a = f0 ∨ a = f1 ∨ a = s.heap.objs.size ∨ ∃ b ∈ cells, a = cellIn env b.1
  have sub : ∀ a, S a → S' a := fun _ h => .inl h
  have h1' : h'.get? f1 = some _ := hk _ _ hne h1
  have I' : Inv C S' { s with heap := h', toks := tk } := st.inv.extend sub fun a q => by
    rcases q with q | rfl | rfl | rfl | ⟨b, hb', rfl⟩
    · exact .inl q
    · exact .inr ⟨live_of e0, nt0⟩
    · exact .inr ⟨live_of h1', nt1⟩
    · exact .inr ⟨live_of ed, ntd⟩
    · obtain ⟨_, _, _, v, hc, _⟩ := H.at F b hb'
      refine .inr ⟨?_, I.notab_cell hc⟩
      obtain ⟨o, e, _⟩ := hc
      exact live_of (hk _ _ (cellNe b hb') e)
  refine ⟨⟨S', ⟨I', fun a q => .inl q, fun a q => ?_, st.kept⟩, f0, _, fd0, s.heap.objs.size, es, m, rfl, .inr (.inl rfl), .inr (.inr (.inr (.inl rfl))), e0, hc0, hd0, rfl, ed, ?_⟩, fun x v hx => ?_⟩
  · rcases q with q | rfl | rfl | rfl | ⟨b, hb', rfl⟩
    · exact .inl q
    · exact .inr nb0
    · exact .inr nb1
    · exact .inr fun q => not_live fresh (F.alive _ (hle _ q))
    · exact .inr fun q => (H.at F b hb').2.1 (hle _ q)
  · obtain ⟨hsh, tt, rfl⟩ := hes
    refine ⟨⟨⟨tt, rfl⟩, f1, _, dV, doc, pm, c', ctv, rfl, .inr (.inr (.inl rfl)), h1', .inl hS, ?_, ?_, ?_⟩, trivial⟩
    · obtain ⟨c2, o, vs, tt, e, g, r⟩ := hrec
      cases e
      exact ⟨_, o, vs, tt, rfl, hk _ _ (fun q => nS0 (q ▸ hS)) g, r⟩
    · cases dflt with
      | none => exact hdf
      | some ps =>
        obtain ⟨tp, vs, q1, q2, q3, q4⟩ := hdf
        exact ⟨tp, vs, q1, .inl q2, hk _ _ (fun q => nS0 (q ▸ q2)) q3, (q4.keep (st.keeps I)).mono sub⟩
    · refine cellsOk_of (cellIn env) cells fun b hb' => ?_
      obtain ⟨_, _, _, v, ⟨o, e, hc⟩, hp⟩ := H.at F b hb'
      exact ⟨.inr (.inr (.inr (.inr ⟨b, hb', rfl⟩))), v, ⟨o, hk _ _ (cellNe b hb') e, hc⟩, b.2.mono sub (b.2.keep (st.keeps I) hp)⟩
  · rcases hx with ⟨a, mm, ⟨o, es', ep, e, hdd, r⟩, z⟩ | ⟨a, c, b, o, e, hc⟩
    · exact .inl ⟨a, mm, ⟨o, es', ep, hk _ _ (fun q => by rw [q, h0] at e; cases e; rw [hd0] at hdd; cases hdd) e, hdd, r⟩, z⟩
    · exact .inr ⟨a, c, b, o, hk _ _ (fun q => by rw [q, h0] at e; cases e; rw [hd0] at hc; cases hc) e, hc⟩

theorem lam_eval {A : Around} {E : Value → Shared → Prop} {S : ASet} {s : Shared} {env : Env} {qual : Str} {params : Arguments} {body : Expr} {scope : Scope} {clos : List (Str × Addr)} {pos : Pos} {Q : Value → Shared → Prop}
    (T : MakerOk C mg t) (I : Inv C S s) (hcode : env.code = .ref t.c) (hglob : env.globals = mainGlobals) (hq : env.qual ++ "<lambda>" = qual) (hm : (pos, qual) ∈ t.made) (hu : ∀ x ∈ t.made, pos.line = x.1.line → pos.col = x.1.col → x.2 = qual) (hcl : closureFor scope env = pure clos)
    (hdef : defaultsOf params env = ([], []))
    (h : ∀ f c' ctv doc S' s', Grow C S s S' s' → s.heap.get? f = none → ¬ S' f → s'.heap.get? f = some (kdv_obj "<lambda>" qual params (.expr body) scope clos .none doc ((mg "__name__").getD .none) c' ctv) → S' c' → s'.heap.CodeRec (.ref c') qual → Q (.ref f) s') :
    wpAny C.M A (eval (.Lambda params body scope pos) env) Q E s := by
  refine kla_eval hdef ?_
  rw [makeFunction_eq]
  simp only [List.zip_nil_right, List.filterMap_nil, List.isEmpty_nil, if_true, pure_bind]
  rw [hq]
  exact make_fn T I hcode hglob hm hu hcl h

theorem foreign_fn {h : Heap} {f : Addr} {o : Obj} {fd : FuncData} (e : h.get? f = some o) (hc : o.cls = .type "function") (hd : o.data = .func fd) : Foreign h f :=
  ⟨o, e, by rw [hc]; decide, (fun _ _ q => by rw [hd] at q; cases q), (fun _ q => by rw [hd] at q; cases q), by rw [hc]; decide⟩

end
end Mine

set_option tactic.hygienic false
set_option maxRecDepth 10000
namespace Mine
open PySem PySem.W PyProof.Rows

section
variable {C : Cx} {fr : Shape} {n : Nat} {vals vals' : List Slot} {mg : Str → Option Value} {t : TabSpec}


structure MadeAt (t : TabSpec) (pos : Pos) (qual : Str) : Prop where
  mem : (pos, qual) ∈ t.made
  uniq : ∀ x ∈ t.made, pos.line = x.1.line → pos.col = x.1.col → x.2 = qual

theorem set_get {vals : List Slot} {names : List Str} {i : Nat} {x : Str} {t : Slot} (hi : names[i]? = some x) (hl : names.length = vals.length) : (vals.set i t)[i]? = some t := by
  rw [List.getElem?_set_self]
  rw [← hl]; exact (List.getElem?_eq_some_iff.mp hi).1

theorem FnG.hit {a : Addr} {fd : FuncData} {xs : List Str} {ps : List VP} {x attr q0 : Str} {p1 p2 p3 p4 p5 p6 p7 lp0 lp1 : Pos} {pr0 pr1 : Arguments} {e0 e1 : Expr} {sc0 sc1 : Scope} {cells : List (Str × VP)} (i : Nat)
    (D : DefOk C a fd [.Assign [.Name x p1] (.Lambda pr0 e0 sc0 lp0) p2, .Assign [.Attribute (.Name x p3) attr p4] (.Lambda pr1 e1 sc1 lp1) p5, .Return (some (.Name x p6)) p7] xs fr) (hl : ps.length = xs.length)
    (T : MakerOk C mg t) (hc : fd.code = .ref t.c) (hq : fd.qualname ++ ".<locals>." ++ "<lambda>" = q0) (M0 : MadeAt t lp0 q0) (M1 : MadeAt t lp1 q0) (hi : fr.names[i]? = some x) (hst : canStore fr x = true)
    (hn0 : ((sc0.names.filter fun p => p.2 == .free).map (·.1)).reverse = []) (hn1 : ((sc1.names.filter fun p => p.2 == .free).map (·.1)).reverse = cells.map (·.1))
    (hcs : ∀ q, CellSlots fr ((startVals ps (fr.names.length - xs.length)).set i (.val q)) cells) (hty : typeLookup (.type "function") attr = pure none)
    (hd0 : ∀ env, defaultsOf pr0 env = ([], []) := by intro _; rfl) (hd1 : ∀ env, defaultsOf pr1 env = ([], []) := by intro _; rfl)
    (hs1 : ∀ env, swapsWith (.Lambda pr0 e0 sc0 lp0) (some (.Name x p1)) p2.line env = pure false := by intro _; rfl) (hs2 : ∀ env, swapsWith (.Lambda pr1 e1 sc1 lp1) (some (.Attribute (.Name x p3) attr p4)) p5.line env = pure false := by intro _; rfl)
    (hdb : (x == ("__debug__" : Str)) = false := by decide) (hcd : (x == ("__classdict__" : Str)) = false := by decide) :
    FnG C (n + 1) (.ref a) ps (vFun [(attr, vClo "<lambda>" q0 pr1 (.expr e1) sc1 none cells)]) := by
  refine FnG.topAt D hl fun hb env A S s hcode hqual _ F => ?_
  have hlen : fr.names.length = (startVals ps (fr.names.length - xs.length)).length := by obtain ⟨f, e, _⟩ := F.slots; exact e
  refine wpAny_execs_cons (wpAny_Assign_Name (lam_eval T F.inv (hcode.trans hc) F.globals (by rw [hqual]; exact hq) M0.mem M0.uniq (CellSlots.closure F (cells := []) (fun b q => nomatch q) hn0) (hd0 env) fun f0 c0 ctv0 doc0 S1 s1 g1 hf0n nS0 hf0 _ _ => ?_) (hs1 env))
  have F1 := F.grow g1
  have nt0 : ¬ C.isTab f0 := F1.inv.notab_of hf0 fun vs q => by cases q
  have P1 := F1.protect (wr := [f0]) fun b hb' => by cases List.mem_singleton.mp hb'; exact foreign_fn hf0 rfl rfl
  refine P1.store (p := vIs (.ref f0)) hi D.nodup hst rfl fun s2 st2 F2 _ => ?_
  have hf0' := st2.kept f0 _ nt0 (.inl (.inr (.head _))) hf0
  have hcs' := hcs (vIs (.ref f0))
  refine wpAny_execs_cons (plainObj_wpAny_Assign_Attribute (lam_eval T F2.inv (hcode.trans hc) F2.globals (by rw [hqual]; exact hq) M1.mem M1.uniq (CellSlots.closure F2 hcs' hn1) (hd1 env) fun f1 c1 ctv1 doc1 S3 s3 g3 hf1n nS1 hf1 hS1 hrec1 => ?_) (hs2 env))
  have F3 := F2.grow g3
  obtain ⟨f, _, hsl, _⟩ := F3.slots
  obtain ⟨v', y, z⟩ := hsl i x _ hi (set_get hi hlen)
  cases (show v' = .ref f0 from z)
  refine wpAny_Name (y.load F3.kind hcd ?_) hdb
  have nb0 : ¬ hb f0 := fun q => not_live hf0n (F.alive _ q)
  have nb1 : ¬ hb f1 := fun q => not_live hf1n (F2.alive _ (.inl q))
  have hne : f1 ≠ f0 := fun q => by rw [q, hf0'] at hf1n; cases hf1n
  have nS0' : ¬ S3 f0 := fun q => (g3.new _ q).elim nS0 fun e => e (live_of hf0')
  refine wpAny_mono (fun_finish (hb := hb) F3 (fun _ h => .inl h) hcs' (g3.all _ _ nt0 hf0') rfl rfl rfl nS0' nb0 hf1 nb1 hne hS1 hrec1 (dflt := none) rfl hty) (fun _ s4 pq => ?_) fun _ _ z => z
  obtain ⟨⟨S', st4, hP⟩, hHolds⟩ := pq
  refine wpAny_execs_cons (wpAny_Return_some (wpAny_Name ((hHolds _ _ y).load F3.kind hcd ?_) hdb))
  exact ⟨S', (((F.stepGrow g1).trans (st2.weaken fun _ h => .inl h)).trans ((F2.stepGrow g3).weaken fun _ h => .inl h)).trans st4, hP⟩

theorem FnG.prog {a : Addr} {fd : FuncData} {xs : List Str} {ps : List VP} {sn x attr q0 q1 : Str} {p1 p2 p3 p4 p5 p6 p7 p8 fp lp0 : Pos} {pr0 pr1 : Arguments} {e0 : Expr} {sbody : List Stmt} {sc0 sc1 : Scope} {cells : List (Str × VP)} {dk : Nat} {dp : Pos} {dv : Int} (i j : Nat)
    (D : DefOk C a fd [.FunctionDef sn pr1 sbody [] none [] sc1 none sn fp, .Assign [.Name x p1] (.Lambda pr0 e0 sc0 lp0) p2, .Assign [.Attribute (.Name x p3) attr p4] (.Name sn p8) p5, .Return (some (.Name x p6)) p7] xs fr) (hl : ps.length = xs.length)
    (T : MakerOk C mg t) (hc : fd.code = .ref t.c) (hq : fd.qualname ++ ".<locals>." ++ "<lambda>" = q0) (hqs : ∀ env : Env, env.qual = fd.qualname ++ ".<locals>." → env.scope = fr.scope → qualnameIn env sn sn = q1) (M0 : MadeAt t lp0 q0) (M1 : MadeAt t fp q1)
    (hi : fr.names[i]? = some x) (hst : canStore fr x = true) (hj : fr.names[j]? = some sn) (hstj : canStore fr sn = true) (hij : i ≠ j)
    (hdv : pr1.defaults = [.Constant (.int dv) dk dp]) (hkd : pr1.kw_defaults = []) (hann : ∀ env, annTrees pr1 none env = [])
    (hn0 : ((sc0.names.filter fun p => p.2 == .free).map (·.1)).reverse = []) (hn1 : ((sc1.names.filter fun p => p.2 == .free).map (·.1)).reverse = cells.map (·.1))
    (hcs0 : CellSlots fr (startVals ps (fr.names.length - xs.length)) cells)
    (hcs : ∀ q q', CellSlots fr (((startVals ps (fr.names.length - xs.length)).set j (.val q)).set i (.val q')) cells) (hty : typeLookup (.type "function") attr = pure none)
    (hd0 : ∀ env, defaultsOf pr0 env = ([], []) := by intro _; rfl)
    (hs1 : ∀ env, swapsWith (.Lambda pr0 e0 sc0 lp0) (some (.Name x p1)) p2.line env = pure false := by intro _; rfl) (hs2 : ∀ env, swapsWith (.Name sn p8) (some (.Attribute (.Name x p3) attr p4)) p5.line env = pure false := by intro _; rfl)
    (hdb : (x == ("__debug__" : Str)) = false := by decide) (hcd : (x == ("__classdict__" : Str)) = false := by decide)
    (hdbj : (sn == ("__debug__" : Str)) = false := by decide) (hcdj : (sn == ("__classdict__" : Str)) = false := by decide) :
    FnG C (n + 1) (.ref a) ps (vFun [(attr, vClo sn q1 pr1 (.stmts sbody) sc1 (some [vInt dv]) cells)]) := by
  refine FnG.topAt D hl fun hb env A S s hcode hqual _ F => ?_
  have hlen : fr.names.length = (startVals ps (fr.names.length - xs.length)).length := by obtain ⟨f, e, _⟩ := F.slots; exact e
  refine wpAny_execs_cons (kdv_def (by rw [hdv]; rfl) hkd (hann env) ?_)
  rw [hdv]
  refine kdv_all1 (wpAny_Constant_int (kdv_all0 ?_))
  have g0 : Grow C S s S { s with toks := s.toks + 1 } := Grow.tok F.inv _
  have Fa := F.grow g0
  rw [makeFunction_eq]
  simp only [List.zip_nil_right, List.filterMap_nil, List.isEmpty_nil, if_true, pure_bind, List.isEmpty_cons, Bool.false_eq_true, if_false]
  refine wpAny_bind (wpAny_newTextTuple ?_)
  rw [hqs env hqual F.scope]
  have gt := grow_push (C := C) (tk := s.toks + 1) (o := kdv_tup [.int dv s.toks]) (S := S) (s := s) F.inv rfl
  have Ft := F.grow gt
  refine make_fn T gt.inv (hcode.trans hc) F.globals M1.mem M1.uniq (CellSlots.closure F hcs0 hn1) fun f1 c1 ctv1 doc1 S1 s1 g1 hf1n nS1 hf1 hS1 hrec1 => ?_
  have F1 := Ft.grow g1
  have nt1 : ¬ C.isTab f1 := F1.inv.notab_of hf1 fun vs q => by cases q
  have P1 := F1.protect (wr := [f1]) fun b hb' => by cases List.mem_singleton.mp hb'; exact foreign_fn hf1 rfl rfl
  refine P1.store (p := vIs (.ref f1)) hj D.nodup hstj rfl fun s2 st2 F2 _ => ?_
  have hf1' := st2.kept f1 _ nt1 (.inl (.inr (.head _))) hf1
  refine wpAny_execs_cons (wpAny_Assign_Name (lam_eval T F2.inv (hcode.trans hc) F2.globals (by rw [hqual]; exact hq) M0.mem M0.uniq (CellSlots.closure F2 (cells := []) (fun b q => nomatch q) hn0) (hd0 env) fun f0 c0 ctv0 doc0 S3 s3 g3 hf0n nS0 hf0 _ _ => ?_) (hs1 env))
  have F3 := F2.grow g3
  have nt0 : ¬ C.isTab f0 := F3.inv.notab_of hf0 fun vs q => by cases q
  have hf1'' := g3.all _ _ nt1 hf1'
  have P3 := F3.protect (wr := [f0]) fun b hb' => by cases List.mem_singleton.mp hb'; exact foreign_fn hf0 rfl rfl
  refine P3.store (p := vIs (.ref f0)) hi D.nodup hst rfl fun s4 st4 F4 _ => ?_
  have hf0' := st4.kept f0 _ nt0 (.inl (.inr (.head _))) hf0
  have hf1q := st4.kept f1 _ nt1 (.inl (.inl (.inr (.head _)))) hf1''
  obtain ⟨f, hL, hsl, _⟩ := F4.slots
  obtain ⟨v', y, z⟩ := hsl i x _ hi (set_get hi (by rw [List.length_set]; exact hlen))
  cases (show v' = .ref f0 from z)
  obtain ⟨v', y1, z⟩ := hsl j sn _ hj (by rw [List.getElem?_set_ne hij]; exact set_get hj hlen)
  cases (show v' = .ref f1 from z)
  refine wpAny_execs_cons (plainObj_wpAny_Assign_Attribute (wpAny_Name (y1.load F4.kind hcdj (wpAny_Name (y.load F4.kind hcd ?_) hdb)) hdbj) (hs2 env))
  have nb1 : ¬ hb f1 := fun q => not_live hf1n (Ft.alive _ q)
  have nb0 : ¬ hb f0 := fun q => not_live hf0n (F2.alive _ (.inl q))
  have hne : f1 ≠ f0 := fun q => by rw [← q, hf1'] at hf0n; cases hf0n
  have sz : S1 s.heap.objs.size := g1.sub _ (.inr rfl)
  have ht1 : s1.heap.get? s.heap.objs.size = some (kdv_tup [.int dv s.toks]) := g1.keeps gt.inv _ _ (.inr rfl) (Heap.get?_push_size _ rfl)
  have ht4 : s4.heap.get? s.heap.objs.size = some (kdv_tup [.int dv s.toks]) := st4.keeps F3.inv _ _ (g3.sub _ sz) (g3.keeps F2.inv _ _ sz (st2.keeps F1.inv _ _ sz ht1))
  have hr4 : s4.heap.CodeRec (.ref c1) q1 := by
    obtain ⟨c, o, vs, tt, e, g, r⟩ := hrec1
    cases e
    exact ⟨_, o, vs, tt, rfl, st4.keeps F3.inv _ _ (g3.sub _ hS1) (g3.keeps F2.inv _ _ hS1 (st2.keeps F1.inv _ _ hS1 g)), r⟩
  refine wpAny_mono (fun_finish (hb := hb) F4 (fun _ h => .inl (.inl h)) (hcs _ _) hf0' rfl rfl rfl nS0 nb0 hf1q nb1 hne (g3.sub _ hS1) hr4 (dflt := some [vInt dv]) ⟨_, _, rfl, g3.sub _ sz, ht4, ⟨_, rfl⟩, trivial⟩ hty) (fun _ s5 pq => ?_) fun _ _ z => z
  obtain ⟨⟨S', st5, hP⟩, hHolds⟩ := pq
  refine wpAny_execs_cons (wpAny_Return_some (wpAny_Name ((hHolds _ _ y).load F4.kind hcd ?_) hdb))
  exact ⟨S', (((((F.stepGrow gt).trans (Ft.stepGrow g1)).trans (st2.weaken fun _ h => .inl h)).trans ((F2.stepGrow g3).weaken fun _ h => .inl h)).trans (st4.weaken fun _ h => .inl (.inl h))).trans st5, hP⟩

end
end Mine

set_option tactic.hygienic false
set_option maxRecDepth 10000
namespace Mine
open PySem PySem.W PyProof.Rows


noncomputable def VP.IsFn (q : VP) : Prop := ∀ S h v, q.P S h v → ∃ f o fd, v = .ref f ∧ S f ∧ h.get? f = some o ∧ o.data = .func fd
theorem isFn_clo {name qual params body scope dflt cells} : (vClo name qual params body scope dflt cells).IsFn :=
  fun _ _ _ x => by obtain ⟨f, _, _, _, _, _, _, e, h1, h2, _⟩ := x; exact ⟨f, _, _, e, h1, h2, rfl⟩

section
variable {C : Cx} {fr : Shape} {n : Nat} {vals vals' : List Slot}

theorem notNone_fun {attrs} : (vFun attrs).NotNone := fun _ _ _ x => by obtain ⟨f, _, _, _, _, _, e, _⟩ := x; rw [e]; nofun

theorem TruG.fun_ {attrs} : TruG C (vFun attrs) true := fun A S s v I _ pq => by
  obtain ⟨f, o, fd, d, es, m, e, h1, h2, h3, h4, _⟩ := pq
  subst e
  exact truthy_fn h3 h4 ⟨rfl, S, .refl I⟩
theorem TruG.none_ : TruG C vNone false := fun A S s v I _ e => by
  cases (show v = .none from e)
  exact wpAny_pure ⟨rfl, S, .refl I⟩

theorem Ev.callAttr {o : Expr} {name : Str} {apos pos : Pos} {args : List Expr} {attrs : List (Str × VP)} {q : VP} {ps : List VP} {r : VP} (ho : Ev C fr n vals o (vFun attrs)) (hq : attrs.lookup name = some q) (hfn : q.IsFn) (ha : EvArgs C fr n vals args ps)
    (hty : typeLookup (.type "function") name = pure Option.none) (hc : CallG C n q ps r) (hbase : ∀ env, attributeBase o name env (eval o env) = eval o env := by intro _; rfl) (hlen : args.length < 30 := by decide) (hline : (apos.endLine == pos.line) = true := by rfl) :
    Ev C fr n vals (.Call (.Attribute o name apos) args [] pos) r := fun hb env A S s F => by
  refine (arm_eval_Call o name apos args [] pos env) ▸ ?_
  rw [hbase]
  refine wpAny_bind (Gives.seq (q := r) (ho hb env A S s F) fun v S₁ s₁ g hp => ?_)
  refine wpAny_bind (wpAny_standAt ?_)
  have hs := ha.1 env
  have hs' : (backTo pos (starEach args env)).all (fun x => !x.1) = true := by
    unfold backTo
    rw [List.all_map]
    have := hs.1
    rw [List.any_eq_false] at this
    rw [List.all_eq_true]
    intro y hy
    have := this y hy
    show (!y.1) = true
    cases hq : y.1 with
    | false => rfl
    | true => exact absurd hq this
  have hform : methodCallForm (args.length + ([] : List Keyword).length) (backTo pos (starEach args env)) (backToKw pos (keywordEach [] env)) = true := by
    unfold methodCallForm
    rw [hs']
    show (true && true && decide (args.length + 0 + 0 < 30)) = true
    simpa using hlen
  have hpos : methodCallPos true o env apos pos = pure pos := by unfold methodCallPos; simp [hline]
  unfold methodCall calleeOf
  rw [hform, if_pos rfl]
  obtain ⟨f, ob, fd, d, es, m, e, h1, h2, h3, h4, h5, h6, h7, h8⟩ := hp
  subst e
  obtain ⟨w, hw, hqw⟩ := h8.get hq
  obtain ⟨f', o', fd', e', k1, k2, k3⟩ := hfn _ _ _ hqw
  subst e'
  refine wpAny_bind (wpAny_holding (getMethod_fn h3 h4 h5 h6 h7 hty hw rfl ?_))
  refine wpAny_bind (wpAny_of_eq hpos ?_)
  have g' : Grow C S₁ s₁ S₁ { s₁ with toks := s₁.toks + 1 } := Grow.tok g.inv _
  have F₁ := (F.grow g).grow g'
  have hsv : (backTo pos (starEach args env)).any (·.1) = false := by
    unfold backTo; rw [List.any_map]; exact hs.1
  refine callWith_of (P := fun h => h.get? f' = some o') (by rw [hsv]; rfl) (fun h k => ⟨.frame, .inl rfl, fun A Q E s k' q => ?_⟩) (evalArgs_of hs.1 (wpAny_mono (ha.2 hb env A S₁ _ pos F₁) (fun vs s₂ ⟨S₂, g₂, x⟩ => ⟨g₂.keeps F₁.inv _ _ k1 k2, ?_⟩) fun _ _ z => z))
  · unfold keeperOf
    refine wpAny_bind (wpAny_load (k' _ _ k) ?_)
    rw [k3]; exact wpAny_pure q
  · exact wpAny_mono (hc A S₂ s₂ (.ref f') vs g₂.inv F.around (q.mono g₂.sub (q.keep (g₂.keeps F₁.inv) hqw)) x) (fun _ _ ⟨S₃, g₃, z⟩ => ⟨S₃, ((g.trans g').trans g₂).trans g₃, z⟩) fun _ _ z => z

end
end Mine

set_option tactic.hygienic false
set_option maxRecDepth 100000
namespace Mine
open PySem PySem.W PyProof.Rows

theorem mapInit : PySem.Slot "map" "__init__" "object.__init__" :=
  .of (owner := "object") (n := "__init__") (by rw [typeLookup_type, builtinLookup_eq_fast]; kernel_rfl) (by decide +kernel) (by decide +kernel) (by decide +kernel) (by first | exact .inl (by decide +kernel) | exact .inr (by decide +kernel)) (by rw [isSubtype_type]; kernel_rfl)
theorem mapNext : PySem.Slot "map" "__next__" "map.__next__" :=
  .of (owner := "map") (n := "__next__") (by rw [typeLookup_type, builtinLookup_eq_fast]; kernel_rfl) (by decide +kernel) (by decide +kernel) (by decide +kernel) (by first | exact .inl (by decide +kernel) | exact .inr (by decide +kernel)) (by rw [isSubtype_type]; kernel_rfl)
theorem mapIter : PySem.Slot "map" "__iter__" "map.__iter__" :=
  .of (owner := "map") (n := "__iter__") (by rw [typeLookup_type, builtinLookup_eq_fast]; kernel_rfl) (by decide +kernel) (by decide +kernel) (by decide +kernel) (by first | exact .inl (by decide +kernel) | exact .inr (by decide +kernel)) (by rw [isSubtype_type]; kernel_rfl)
theorem mapEntryNext : entryFor table "map.__next__" = some Builtin.«map.__next__» := entryFor_of_tree (by kernel_rfl)
theorem mapEntryNew : entryFor table "map.__new__" = some Builtin.«map.__new__» := entryFor_of_tree (by kernel_rfl)
theorem mapEntryIter : entryFor table "map.__iter__" = some Builtin.«dict_keyiterator.__iter__» :=
  entryFor_alias (id' := "dict_keyiterator.__iter__") (by kernel_rfl) (by first | rfl | decide +kernel | (unfold String.splitOn; simp +decide [String.splitOnAux])) (by decide +kernel) (by kernel_rfl)
theorem mapMro : mroOf (.type "map") = pure [.type "map", .type "object"] := by rw [mroOf_type]; kernel_rfl
theorem mapLookNew : typeLookup (.type "map") "__new__" = pure (some (.builtin "map.__new__")) := by rw [typeLookup_type, builtinLookup_eq_fast]; kernel_rfl
theorem mapCalled : TypeCalled "map" "map.__new__" "object.__init__" :=
  ⟨by decide +kernel, by decide +kernel, ⟨_, _, mapMro⟩, madeBy_type mapMro mapLookNew (by decide +kernel), by decide +kernel, by rw [isSubtype_type]; kernel_rfl, mapInit⟩
theorem mapType2 (a b : Value) : checkTypeCall "map" ⟨[a, b], []⟩ = pure () := by kernel_rfl
theorem mapNew2 (a b : Value) : checkBuiltinCall "map.__new__" ⟨[.type "map", a, b], []⟩ = pure () := by kernel_rfl
theorem mapArgsNext (a : Value) : argsOk "map.__next__" ⟨[a], []⟩ := by unfold argsOk; kernel_rfl
theorem mapArgsIter (a : Value) : argsOk "map.__iter__" ⟨[a], []⟩ := by unfold argsOk; kernel_rfl
theorem mapSub : isSubtype (.type "map") (.type "map") = pure true := by rw [isSubtype_type]; kernel_rfl

noncomputable abbrev IsMap (h : Heap) (z T : Addr) (f : Value) : Prop := h.get? z = some { cls := .type "map", dict := none, data := .fields #[.ref T, f], slots := #[] }
noncomputable abbrev IsOne (h : Heap) (T : Addr) (a : Value) : Prop := h.get? T = some { cls := .type "tuple", data := .seq #[a] }

noncomputable abbrev mapH1 (h : Heap) (l : Addr) : Heap := h.push { cls := .type "list_iterator", data := .fields #[.ref l, .int 0 0] }
noncomputable abbrev mapH2 (h : Heap) (l : Addr) : Heap := (mapH1 h l).push { cls := .type "tuple", data := .seq #[.ref h.objs.size] }
noncomputable abbrev mapH3 (h : Heap) (f : Value) (l : Addr) : Heap := (mapH2 h l).push { cls := .type "map", data := .fields #[.ref (mapH1 h l).objs.size, f] }

theorem meets_map_new (f : Value) (l : Addr) (xs : Array Value) :
    Meets (Builtin.«map.__new__» ⟨[.type "map", f, .ref l], []⟩) (fun _ R s => s.heap.IsList l xs ∧ R (.ok (.ret (.ref (mapH2 s.heap l).objs.size))) { s with heap := mapH3 s.heap f l }) :=
  .of_wp fun prog w A R s h => by
    obtain ⟨hp, g, d, tk, os⟩ := s; obtain ⟨hl1, h⟩ := h
    have hsub := mapSub
    have hL1 : Heap.IsList (Shared.heap ⟨hp, g, d, tk, os⟩) l xs := hl1
    wp_walk using wpAny_pyIter_list hL1
    exact ⟨_, rfl, h⟩

section
variable {prog : Program} {w : World} {A : Around} {E : Value → Shared → Prop} {s : Shared}

theorem map_next_item {z T i l : Addr} {k : Nat} {xs : Array Value} {x f : Value} {Q : Value → Shared → Prop} (hz : IsMap s.heap z T f) (hT : IsOne s.heap T (.ref i)) (hi : s.heap.IsListIter i l k) (hl : s.heap.IsList l xs) (hx : xs[k]? = some x) (hne : z ≠ i)
    (h : ∀ h', h'.IsListIter i l (k + 1) → Heap.SameBut i s.heap h' → wpAny (model prog w) A (call f [x]) Q E { s with heap := h' }) :
    wpAny (model prog w) A (Builtin.«map.__next__» ⟨[.ref z], []⟩) (fun fin s' => ∃ v, fin = .done (.ret v) ∧ Q v s') E s := by
  show wpAny _ _ (field (.ref z) 0 >>= _) _ _ _
  refine wpAny_bind (wpAny_field hz rfl (x := .ref T) rfl ?_)
  refine wpAny_bind (wpAny_seqItems hT rfl ?_)
  refine wpAny_bind ?_
  rw [← Array.forIn_toList]
  simp only [List.forIn_cons, List.forIn_nil]
  refine wpAny_bind (wpAny_bind (wpAny_holding (wpAny_nextOf_list_item hi hl hx fun h' hi' hs' => wpAny_pure (wpAny_pure ?_))))
  refine wpAny_bind (wpAny_field (hs'.extBut _ _ hne hz) rfl (x := f) rfl ?_)
  refine wpAny_bind (wpAny_holding (wpAny_mono (h h' hi' hs') (fun v s' hq => ?_) fun _ _ z => z))
  exact wpAny_bind (wpAny_letGo (wpAny_pure ⟨v, rfl, hq⟩))

theorem map_next_end {z T i l : Addr} {k : Nat} {xs : Array Value} {f : Value} {Q : Fin → Shared → Prop} (hh : A.handled = none) (hz : IsMap s.heap z T f) (hT : IsOne s.heap T (.ref i)) (hi : s.heap.IsListIter i l k) (hl : s.heap.IsList l xs) (hx : xs[k]? = none)
    (hE : ∀ h' e, Heap.ExtBut i s.heap h' → (∃ o, h'.get? e = some o ∧ o.cls = .type "StopIteration") → E (.ref e) { s with heap := h' }) :
    wpAny (model prog w) A (Builtin.«map.__next__» ⟨[.ref z], []⟩) Q E s := by
  show wpAny _ _ (field (.ref z) 0 >>= _) _ _ _
  refine wpAny_bind (wpAny_field hz rfl (x := .ref T) rfl ?_)
  refine wpAny_bind (wpAny_seqItems hT rfl ?_)
  refine wpAny_bind ?_
  rw [← Array.forIn_toList]
  simp only [List.forIn_cons, List.forIn_nil]
  exact wpAny_bind (wpAny_bind (wpAny_holding (wpAny_nextOf_list_end hh hi hl hx hE)))

theorem pyNext_map_item {z T i l : Addr} {k : Nat} {xs : Array Value} {x f : Value} {Q : Option Value → Shared → Prop} (hz : IsMap s.heap z T f) (hT : IsOne s.heap T (.ref i)) (hi : s.heap.IsListIter i l k) (hl : s.heap.IsList l xs) (hx : xs[k]? = some x) (hne : z ≠ i)
    (h : ∀ A' : Around, A'.handled = A.handled → A'.depth = A.depth → A'.units ≤ A.units + 5 → ∀ h', h'.IsListIter i l (k + 1) → Heap.SameBut i s.heap h' → wpAny (model prog w) A' (call f [x]) (fun v s' => Q (some v) s') F0 { s with heap := h' }) :
    wpAny (model prog w) A (pyNext (.ref z)) Q E s := by
  have hT' : s.TypeIs (.ref z) "map" := ⟨_, hz, rfl⟩
  unfold pyNext
  refine wpAny_bind (wpAny_attempt (wpAny_callSpecial?_slot (name := Str.ofString "__next__") hT' mapNext (wpAny_call_entry mapNext hT' mapEntryNext (map_next_item hz hT hi hl hx hne fun h' hi' hs' => ?_) (mapArgsNext _))))
  refine wpAny_mono (h _ ?_ ?_ ?_ h' hi' hs') (fun v s' hq => wpAny_pure hq) fun _ _ z => z.elim
  all_goals first | rfl | (simp; done) | (show _ ≤ _; simp)

theorem pyNext_map_end {z T i l : Addr} {k : Nat} {xs : Array Value} {f : Value} {Q : Option Value → Shared → Prop} (hh : A.handled = none) (hz : IsMap s.heap z T f) (hT : IsOne s.heap T (.ref i)) (hi : s.heap.IsListIter i l k) (hl : s.heap.IsList l xs) (hx : xs[k]? = none)
    (hQ : ∀ h', Heap.ExtBut i s.heap h' → Q none { s with heap := h' }) : wpAny (model prog w) A (pyNext (.ref z)) Q E s := by
  have hT' : s.TypeIs (.ref z) "map" := ⟨_, hz, rfl⟩
  unfold pyNext
  refine wpAny_bind (wpAny_attempt (wpAny_callSpecial?_slot (name := Str.ofString "__next__") hT' mapNext (wpAny_call_entry mapNext hT' mapEntryNext (map_next_end hh hz hT hi hl hx fun h' e hk he => ?_) (mapArgsNext _))))
  obtain ⟨o, ho, hc⟩ := he
  refine wpAny_bind (wpAny_isInstance (T := "StopIteration") (b := true) ⟨o, ho, hc⟩ isSubtype_stop ?_)
  exact wpAny_pure (hQ _ hk)

theorem pyIter_map {z T : Addr} {f : Value} {Q : Value → Shared → Prop} (hz : IsMap s.heap z T f) (h : Q (.ref z) s) : wpAny (model prog w) A (pyIter (.ref z)) Q E s := by
  have hT : s.TypeIs (.ref z) "map" := ⟨_, hz, rfl⟩
  refine wpAny_pyIter_slot hT mapIter (wpAny_call_entry mapIter hT mapEntryIter ?_ (mapArgsIter _))
  show wpAny _ _ (ret (.ref z)) _ _ s
  exact wpAny_pure ⟨_, rfl, "map", _, hT, mapNext.lookup, h⟩

theorem call_map {l : Addr} {xs : Array Value} {f : Value} {Q : Value → Shared → Prop} (hl : s.heap.IsList l xs)
    (h : ∀ h', IsMap h' (s.heap.objs.size + 2) (s.heap.objs.size + 1) f → IsOne h' (s.heap.objs.size + 1) (.ref s.heap.objs.size) → h'.IsListIter s.heap.objs.size l 0 → (∀ c o, s.heap.get? c = some o → h'.get? c = some o) → Q (.ref (s.heap.objs.size + 2)) { s with heap := h' }) :
    wpAny (model prog w) A (call (.type "map") [f, .ref l]) Q E s := by
  refine callType_new mapCalled (by decide) (mapType2 _ _) (mapNew2 _ _) (fun obj => PySem.F.args_object_init_3 obj _ _) mapEntryNew (meets_map_new f l xs) ⟨hl, ?_⟩
  have z1 : (mapH1 s.heap l).objs.size = s.heap.objs.size + 1 := Heap.size_push ..
  have z2 : (mapH2 s.heap l).objs.size = s.heap.objs.size + 2 := by rw [Heap.size_push, z1]
  have g3 : (mapH3 s.heap f l).get? (mapH2 s.heap l).objs.size = some _ := Heap.get?_push_size _ rfl
  have g2 : (mapH3 s.heap f l).get? (mapH1 s.heap l).objs.size = some _ := Heap.get?_push_of_some _ (Heap.get?_push_size _ rfl)
  have g1 : (mapH3 s.heap f l).get? s.heap.objs.size = some _ := Heap.get?_push_of_some _ (Heap.get?_push_of_some _ (Heap.get?_push_size _ rfl))
  show _ ∧ _
  rw [z1, z2] at g3
  rw [z1] at g2
  rw [z2]
  exact ⟨⟨_, g3, rfl⟩, h _ g3 g2 ⟨_, g1, rfl, rfl⟩ fun c o x => Heap.get?_push_of_some _ (Heap.get?_push_of_some _ (Heap.get?_push_of_some _ x))⟩
end

end Mine

set_option tactic.hygienic false
set_option maxRecDepth 10000
namespace Mine
open PySem PySem.W PyProof.Rows

section
variable {C : Cx} {fr : Shape} {n : Nat} {vals vals' : List Slot}

theorem Moves.trans {wr : List Addr} {S S' S'' : ASet} {s s' s'' : Shared} (x : Moves C wr S s S' s') (y : Moves C wr S' s' S'' s'') : Moves C wr S s S'' s'' :=
  Step.trans x (y.weaken fun b h => ⟨x.alive (.inl h) h.1, h.2⟩)
theorem Grow.moves {wr : List Addr} {S S' : ASet} {s s' : Shared} (x : Grow C S s S' s') : Moves C wr S s S' s' := x.weaken fun _ h => h.1

structure MapAt (S : ASet) (h : Heap) (f : Value) (z T i l : Addr) (k : Nat) (xs : Array Value) : Prop where
  mp : IsMap h z T f
  tp : IsOne h T (.ref i)
  it : h.IsListIter i l k
  ls : h.IsList l xs
  zi : z ≠ i
  Ti : T ≠ i
  li : l ≠ i
  nS : ¬ S i

theorem foreign_iter {h : Heap} {i l : Addr} {k : Nat} (x : h.IsListIter i l k) : Foreign h i := by
  obtain ⟨o, e, hc, hd⟩ := x
  exact foreign_fields e hd (by rw [hc]; decide) (by rw [hc]; decide)

theorem MapAt.moves {S S' : ASet} {s s' : Shared} {f : Value} {z T i l : Addr} {k k' : Nat} {xs : Array Value} (I : Inv C S s) (M : MapAt S s.heap f z T i l k xs) (m : Moves C [i] S s S' s') (hi : s'.heap.IsListIter i l k') (nS : ¬ S' i) : MapAt S' s'.heap f z T i l k' xs := by
  have ne : ∀ {b}, b ≠ i → b ∉ [i] := fun h q => h (List.mem_singleton.mp q)
  obtain ⟨o, e, r1, r2, r3⟩ := M.ls
  exact ⟨m.all _ _ (ne M.zi) ((foreign_fields M.mp rfl (show Value.type "map" ≠ _ by decide) (show Value.type "map" ≠ _ by decide)).notab I) M.mp, m.all _ _ (ne M.Ti) (I.notab_of M.tp fun vs q => by cases q) M.tp, hi, ⟨o, m.all _ _ (ne M.li) (I.notab_of e fun vs q => by rw [r3] at q; cases q) e, r1, r2, r3⟩, M.zi, M.Ti, M.li, nS⟩

theorem map_draw {A : Around} {E : Value → Shared → Prop} {S : ASet} {s : Shared} {z T i l : Addr} {k : Nat} {xs : Array Value} {x f : Value} {p r : VP} (I : Inv C S s) (hA : AOk 1 A) (M : MapAt S s.heap f z T i l k xs) (hx : xs[k]? = some x) (hint : FnG C 0 f [p] r) (hp : p.P S s.heap x) :
    wpAny C.M A (pyNext (.ref z)) (fun o s' => ∃ v S', o = some v ∧ Moves C [i] S s S' s' ∧ MapAt S' s'.heap f z T i l (k + 1) xs ∧ r.P S' s'.heap v) E s := by
  refine pyNext_map_item M.mp M.tp M.it M.ls hx M.zi fun A' e1 e2 e3 h' hi' hs' => ?_
  have m1 : Moves C [i] S s S { s with heap := h' } := moves_one (tk := s.toks) I (foreign_iter M.it) M.nS hs'.extBut
  have M1 := M.moves I m1 hi' M.nS
  have hA' : AOk 0 A' := ⟨e1.trans hA.handled, by have := hA.depth; lia, by have := hA.units; lia⟩
  refine wpAny_mono (hint A' S _ [x] m1.inv hA' ⟨p.keep (m1.keeps I) hp, trivial⟩) (fun v s' pq => ?_) fun _ _ z => z
  obtain ⟨S', g, hr⟩ := pq
  have nt := (foreign_iter hi').notab m1.inv
  have hi2 : s'.heap.IsListIter i l (k + 1) := by
    obtain ⟨o, e, r⟩ := hi'
    exact ⟨o, g.all _ _ nt e, r⟩
  exact ⟨v, S', rfl, m1.trans g.moves, M1.moves m1.inv g.moves hi2 (fun q => (g.new _ q).elim M.nS fun h => h (foreign_iter hi').live), hr⟩


theorem Ex1.unpackMap {es : List Expr} {k : Nat} {mn : Str} {mp cp tpos pos : Pos} {fe e : Expr} {f : Value} {p1 p2 r1 r2 : VP} (hm : Ev C fr n vals (.Name mn mp) (vIs (.type "map"))) (hf : Ev C fr n vals fe (vIs f)) (he : Ev C fr n vals e (vLst [p1, p2])) (ha : EvArgs C fr n vals [fe, e] [vIs f, vLst [p1, p2]])
    (h1 : FnG C 0 f [p1] r1) (h2 : FnG C 0 f [p2] r2) (hn0 : 0 < n) (hn : Names fr vals es [r1, r2] vals') (hnd : fr.names.Nodup)
    (hs : ∀ env, swapsWithSole [.Tuple es k tpos] (.Call (.Name mn mp) [fe, e] [] cp) pos.line env = pure false := by intro _; rfl) (hw : ∀ env, swappedStores [.Tuple es k tpos] (.Call (.Name mn mp) [fe, e] [] cp) env = pure none := by intro _; rfl) :
    Ex1 C fr n vals (.Assign [.Tuple es k tpos] (.Call (.Name mn mp) [fe, e] [] cp) pos) (.next vals') := fun hb env A S s F => by
  refine Assign_Tuple ?_ (hs env) (hw env)
  refine wpAny_Call_NameR (Gives.seq (q := vNone) (hm hb env A S s F) fun v S₁ s₁ g₁ e₁ => ?_)
  cases (show v = .type "map" from e₁)
  refine callWith_g (first := []) (F.grow g₁) (KeepOk.type "map") ha fun S₂ s₂ vs g₂ hx => ?_
  obtain ⟨a, b, rfl, ha', hb'⟩ := hx.two
  cases (show a = f from ha')
  obtain ⟨l, xs, rfl, hSl, hl, hxs⟩ := hb'
  obtain ⟨x1, x2, rfl, hx1, hx2⟩ := hxs.two
  refine call_map hl.isList fun h' z1 z2 z3 hk => ?_
  have g₃ : Grow C S₂ s₂ S₂ { s₂ with heap := h' } := grow_of_kept (tk := s₂.toks) g₂.inv hk (fun _ h => h) fun _ h => .inl h
  have g := (g₁.trans g₂).trans g₃
  have F₃ := F.grow g
  have fresh : s₂.heap.get? s₂.heap.objs.size = none := Heap.get?_none_of_le (Nat.le_refl _)
  have nS : ¬ S₂ s₂.heap.objs.size := fun q => not_live fresh (g₂.inv.live _ q)
  have nb : ¬ hb s₂.heap.objs.size := fun q => not_live fresh ((g₁.trans g₂).alive (F.alive _ q))
  have M : MapAt S₂ h' f (s₂.heap.objs.size + 2) (s₂.heap.objs.size + 1) s₂.heap.objs.size l 0 #[x1, x2] :=
    ⟨z1, z2, z3, (hl.keeps hk).isList, Nat.ne_of_gt (Nat.lt_add_of_pos_right (by decide)), Nat.ne_of_gt (Nat.lt_succ_self _), (fun q => nS (q ▸ hSl)), nS⟩
  rw [arm_assign_Tuple]
  obtain ⟨n1, n2, n3⟩ := hn.run (C := C) (n := n) hnd
  refine wpAny_bind (wpAny_standAt ?_)
  unfold unpack
  rw [(n1 env).1, n2, (n1 env).2]
  refine wpAny_bind (wpAny_holding ?_)
  unfold unpackItems notIterableAtAll
  refine wpAny_bind (wpAny_bind (wpAny_specialOf (T := "map") ⟨_, z1, rfl⟩ mapIter.lookup (wpAny_pure ?_)))
  simp only [Bool.false_eq_true, if_false]
  refine wpAny_bind (wpAny_holding (pyIter_map z1 ?_))
  have hA1 : AOk 1 A := F.around.le hn0
  refine wpAny_bind (wpAny_holding (wpAny_bind (wpAny_mono (map_draw (E := F0) g₃.inv hA1 M rfl h1 (p1.keep (g₃.keeps g₂.inv) hx1)) (fun o s₄ ⟨v1, S₄, e4, m4, M4, r4⟩ => ?_) fun _ _ z => z)))
  subst e4
  refine wpAny_bind (wpAny_holding (wpAny_bind (wpAny_mono (map_draw (E := F0) m4.inv hA1 M4 rfl h2 (p2.mono m4.sub (p2.keep (m4.keeps g₃.inv) (p2.keep (g₃.keeps g₂.inv) hx2)))) (fun o s₅ ⟨v2, S₅, e5, m5, M5, r5⟩ => ?_) fun _ _ z => z)))
  subst e5
  refine wpAny_bind (wpAny_holding (wpAny_pure (wpAny_pure (wpAny_pure ?_))))
  simp only [List.length_cons, List.length_nil, Nat.lt_irrefl, if_false]
  refine wpAny_bind (wpAny_holding (pyNext_map_end F.around.handled M5.mp M5.tp M5.it M5.ls rfl fun h₆ hx₆ => ?_))
  simp only [Option.isSome_none, Bool.false_eq_true, if_false]
  refine wpAny_pure ?_
  have m6 : Moves C [s₂.heap.objs.size] S₅ s₅ S₅ { s₅ with heap := h₆ } := moves_one (tk := s₅.toks) m5.inv (foreign_iter M5.it) M5.nS hx₆
  have m := (m4.trans m5).trans m6
  have F₆ : FrameOk C fr n hb env A S₅ { s₅ with heap := h₆ } vals := (F₃.protect (wr := [s₂.heap.objs.size]) fun b hb' => by cases List.mem_singleton.mp hb'; exact foreign_iter z3).movesW (fun b hb' => by cases List.mem_singleton.mp hb'; exact foreign_iter z3) m fun b hb' => by cases List.mem_singleton.mp hb'; exact nb
  have r6 : All2 S₅ h₆ [v1, v2] [r1, r2] := ⟨r1.keep (m6.keeps m5.inv) (r1.mono m5.sub (r1.keep (m5.keeps m4.inv) r4)), r2.keep (m6.keeps m5.inv) r5, trivial⟩
  refine wpAny_mono (n3 hb env A S₅ _ _ F₆ r6) (fun _ s' ⟨S', st, F'⟩ => ⟨S', ((F.stepGrow g).trans (m.weaken fun b q => ⟨F₃.alive b q, fun q' => by cases List.mem_singleton.mp q'; exact nb q⟩)).trans st, F'⟩) fun _ _ z => z

end
end Mine

set_option tactic.hygienic true
set_option maxRecDepth 10000
namespace Mine
open PySem PySem.W PyProof.Rows

noncomputable def fnAt (K : Frag) (a : Addr) : FuncData := match K.lookup a with
  | some ⟨_, _, .func fd, _⟩ => fd
  | _ => default
noncomputable def bodyOf (fd : FuncData) : List Stmt := match fd.body with
  | .stmts b => b
  | _ => []


structure LawG (C : Cx) (K : Frag) (mg : Str → Option Value) : Prop where
  X : K.In C.base
  lim : C.base.NoLimit
  g : C.base.Ns mainGlobals mg
  bm : ∃ bm ob, mg "__builtins__" = some (.ref bm) ∧ bm ≠ builtinsNs ∧ C.base.get? bm = some ob ∧ ob.cls = .type "module" ∧ ob.dict = some builtinsNs ∧ ob.data = .plain
  b : ∃ mb, C.base.Ns builtinsNs mb ∧ ∀ x : Str, x ≠ "__name__" → mb x = bootBuiltins x

section
variable {C : Cx} {K : Frag} {mg : Str → Option Value} (L : LawG C K mg)
include L

theorem LawG.fn {x : Str} {v : Value} (h : nsIn K mainGlobals x = some (some v)) : GlobIs C x v := ⟨mg, L.g, .inl (mg_of L.X L.g h)⟩
theorem LawG.bi {x : Str} {v : Value} (h : nsIn K mainGlobals x = some none) (hv : bootBuiltins x = some v) (hn : x ≠ "__name__") : GlobIs C x v :=
  let ⟨mb, h1, h2⟩ := L.b; ⟨mg, L.g, .inr ⟨mg_none_of L.X L.g h, mb, h1, (h2 x hn).trans hv⟩⟩

noncomputable def isPlainFn (K : Frag) (a : Addr) : Bool := match K.lookup a with
  | some ⟨_, _, .func fd, _⟩ => codeIn K fd.code fd.qualname && (match fd.body with | .stmts _ => true | _ => false) && fd.closure.isEmpty && fd.globals == mainGlobals && fd.builtins == builtinsNs && fd.scope.kind == .function && !fd.scope.isCoroutine && !fd.scope.isGenerator
  | _ => false

noncomputable def frameNames (sc : Scope) (xs names cells : List Str) : Bool :=
  names.take xs.length == xs && decide names.Nodup && xs.all (fun x => sc.names.lookup x == some .local || (sc.names.lookup x == some .cell && sc.names.any fun p => p.1 == x && p.2 == .cell)) && cells.all fun x => sc.names.any fun p => p.1 == x && p.2 == .cell

theorem LawG.keep {a : Addr} (h : isPlainFn K a = true) : KeepOk C (.ref a) := by
  unfold isPlainFn at h
  split at h
  · rename_i c d fd sl e; exact KeepOk.fn (L.X _ _ e) rfl
  · cases h

theorem LawG.def_ {a : Addr} {xs names cells : List Str} (h : isPlainFn K a = true) (hn : frameNames (fnAt K a).scope xs names cells = true)
    (hb : ∀ vs : List Value, vs.length = xs.length → bindArgs (fnAt K a) ⟨vs, []⟩ = pure (xs.zip vs)) : DefOk C a (fnAt K a) (bodyOf (fnAt K a)) xs ⟨(fnAt K a).scope, names, cells⟩ := by
  unfold isPlainFn at h
  split at h
  · rename_i c d fd sl e
    have ef : fnAt K a = fd := by unfold fnAt; rw [e]
    rw [ef] at hn hb ⊢
    simp only [Bool.and_eq_true, Bool.not_eq_true', beq_iff_eq] at h
    obtain ⟨⟨⟨⟨⟨⟨⟨h1, h2⟩, h3⟩, h4⟩, h5⟩, h6⟩, h7⟩, h8⟩ := h
    unfold frameNames at hn
    simp only [Bool.and_eq_true, beq_iff_eq, decide_eq_true_eq, List.all_eq_true, Bool.or_eq_true] at hn
    obtain ⟨⟨⟨n1, n2⟩, n3⟩, n4⟩ := hn
    refine ⟨⟨_, L.X _ _ e, rfl⟩, L.lim, codeRec_of L.X h1, ?_, by simpa using h3, h4, h5, h6, h7, h8, hb, rfl, n1, n2, fun x hx => n3 x hx, fun x hx => n4 x hx⟩
    unfold bodyOf
    split at h2
    · rename_i b hb'; rw [hb']
    · cases h2
  · cases h

theorem LawG.maker {t : TabSpec} (hm : t ∈ C.tabs) (hu : ∀ t' ∈ C.tabs, t'.P = t.P → t' = t) (hd : CodeHd C.base t.c t.P) : MakerOk C mg t := ⟨hm, hu, hd, L.g, L.bm⟩

end

theorem len_cons {α : Type} {l : List α} {n : Nat} (h : l.length = n + 1) : ∃ a r, l = a :: r ∧ r.length = n := by
  cases l with
  | nil => cases h
  | cons a r => exact ⟨a, r, rfl, Nat.succ.inj h⟩
theorem bind_1 {fd : FuncData} {x : Str} (h : ∀ a, bindArgs fd ⟨[a], []⟩ = pure [(x, a)]) : ∀ vs : List Value, vs.length = [x].length → bindArgs fd ⟨vs, []⟩ = pure ([x].zip vs) := fun vs e => by
  obtain ⟨a, r1, rfl, e1⟩ := len_cons e
  cases List.length_eq_zero_iff.mp e1
  exact h a
theorem bind_2 {fd : FuncData} {x y : Str} (h : ∀ a b, bindArgs fd ⟨[a, b], []⟩ = pure [(x, a), (y, b)]) : ∀ vs : List Value, vs.length = [x, y].length → bindArgs fd ⟨vs, []⟩ = pure ([x, y].zip vs) := fun vs e => by
  obtain ⟨a, r1, rfl, e1⟩ := len_cons e
  obtain ⟨b, r2, rfl, e2⟩ := len_cons e1
  cases List.length_eq_zero_iff.mp e2
  exact h a b
theorem bind_3 {fd : FuncData} {x y z : Str} (h : ∀ a b c, bindArgs fd ⟨[a, b, c], []⟩ = pure [(x, a), (y, b), (z, c)]) : ∀ vs : List Value, vs.length = [x, y, z].length → bindArgs fd ⟨vs, []⟩ = pure ([x, y, z].zip vs) := fun vs e => by
  obtain ⟨a, r1, rfl, e1⟩ := len_cons e
  obtain ⟨b, r2, rfl, e2⟩ := len_cons e1
  obtain ⟨c, r3, rfl, e3⟩ := len_cons e2
  cases List.length_eq_zero_iff.mp e3
  exact h a b c

end Mine

set_option tactic.hygienic false
set_option maxRecDepth 10000
namespace Mine
open PySem PySem.W PyProof.Rows

section
variable {C : Cx} {fr : Shape} {n : Nat} {vals vals' : List Slot}

theorem Ev.conv {e : Expr} {p q : VP} (h : Ev C fr n vals e p) (hp : p = q) : Ev C fr n vals e q := hp ▸ h
theorem EvB.conv {e : Expr} {p q : Bool} (h : EvB C fr n vals e p) (hp : p = q) : EvB C fr n vals e q := hp ▸ h


theorem Turns.run {α σ : Type} {tgt : Expr} {body : List Stmt} (kind : α → VP) (slots : σ → List Slot) (slots1 : σ → α → List Slot) (inv : σ → List α → Prop) (out : σ → List α → Out)
    (hasg : ∀ st c, Asg C fr n (slots st) tgt (kind c) (slots1 st c)) (hnil : ∀ st, inv st [] → out st [] = .next (slots st))
    (hcons : ∀ st c r, inv st (c :: r) → (∃ st', Ex C fr n (slots1 st c) body (.next (slots st')) ∧ inv st' r ∧ out st (c :: r) = out st' r) ∨ (∃ v, Ex C fr n (slots1 st c) body (.brk v) ∧ out st (c :: r) = .next v) ∨
      ∃ q, Ex C fr n (slots1 st c) body (.ret q) ∧ out st (c :: r) = .ret q) : ∀ l st, inv st l → Turns C fr n tgt body (slots st) (l.map kind) (out st l)
  | [], st, h => by rw [hnil st h]; exact .nil
  | c :: r, st, h => by
    rcases hcons st c r h with ⟨st', h1, h2, h3⟩ | ⟨v, h1, h3⟩ | ⟨q, h1, h3⟩
    · rw [h3]; exact .next (hasg st c) h1 (Turns.run kind slots slots1 inv out hasg hnil hcons r st' h2)
    · rw [h3]; exact .brk (hasg st c) h1
    · rw [h3]; exact .ret (hasg st c) h1


theorem Turns.fold {α σ : Type} {tgt : Expr} {body : List Stmt} (kind : α → VP) (slots : σ → List Slot) (slots1 : σ → α → List Slot) (inv : σ → List α → Prop) (step : σ → α → σ)
    (hasg : ∀ st c, Asg C fr n (slots st) tgt (kind c) (slots1 st c)) (hcons : ∀ st c r, inv st (c :: r) → Ex C fr n (slots1 st c) body (.next (slots (step st c))) ∧ inv (step st c) r) (l : List α) (st : σ) (h : inv st l) :
    Turns C fr n tgt body (slots st) (l.map kind) (.next (slots (l.foldl step st))) :=
  Turns.run kind slots slots1 inv (fun st l => .next (slots (l.foldl step st))) hasg (fun _ _ => rfl) (fun st c r h => .inl ⟨_, (hcons st c r h).1, (hcons st c r h).2, rfl⟩) l st h


noncomputable abbrev compFr (fr : Shape) (scope : Scope) (own : List Str) (idx : List Nat) : Shape := ⟨relabelS scope fr.scope, own ++ idx.filterMap (fr.names[·]?), []⟩
theorem EvL.compOf {elt tgt iter : Expr} {ifs : List Expr} {scope : Scope} {pos : Pos} {p : VP} {items l : List VP} (own : List Str) (idx : List Nat) (qs : List VP) (K : compShape fr scope (compFr fr scope own idx) own idx = true) (hq : Idx vals idx qs)
    (hit : Ev C fr n vals iter p) (hI : IterG C p items) (hT : CTurns C (compFr fr scope own idx) n elt tgt ifs (compVals own qs) items l) (hsz : l.length ≤ sizeLine) (hs : ∀ env x, foldedSetIterable iter env x = pure x := by intro _ _; rfl) :
    EvL C fr n vals (.ListComp elt [⟨tgt, iter, ifs, 0⟩] scope pos) l := EvL.comp K hq hit hI hT hsz hs
theorem EvL.compOfIt {elt tgt iter : Expr} {ifs : List Expr} {scope : Scope} {pos : Pos} {items l : List VP} (own : List Str) (idx : List Nat) (qs : List VP) (K : compShape fr scope (compFr fr scope own idx) own idx = true) (hq : Idx vals idx qs)
    (hI : EvIt C fr n vals tgt iter items) (hT : CTurns C (compFr fr scope own idx) n elt tgt ifs (compVals own qs) items l) (hsz : l.length ≤ sizeLine) (hs : ∀ env x, foldedSetIterable iter env x = pure x := by intro _ _; rfl) :
    EvL C fr n vals (.ListComp elt [⟨tgt, iter, ifs, 0⟩] scope pos) l := EvL.compIt K hq hI hT hsz hs
theorem Ex1.assignComp {x : Str} {pos' spos : Pos} {elt tgt iter : Expr} {ifs : List Expr} {scope : Scope} {pos : Pos} {p : VP} {items l : List VP} (i : Nat) (own : List Str) (idx : List Nat) (qs : List VP) (hi : fr.names[i]? = some x) (hnd : fr.names.Nodup) (hc : canStore fr x = true)
    (K : compShape fr scope (compFr fr scope own idx) own idx = true) (hq : Idx vals idx qs) (hit : Ev C fr n vals iter p) (hI : IterG C p items) (hT : CTurns C (compFr fr scope own idx) n elt tgt ifs (compVals own qs) items l) (hsz : l.length ≤ sizeLine) (hs : ∀ env x, foldedSetIterable iter env x = pure x := by intro _ _; rfl) :
    Ex1 C fr n vals (.Assign [.Name x pos'] (.ListComp elt [⟨tgt, iter, ifs, 0⟩] scope pos) spos) (.next (vals.set i (.own l))) := Ex1.assignCompOwn i hi hnd hc K hq hit hI hT hsz hs


theorem CTurns.sel {α : Type} {elt tgt : Expr} {ifs : List Expr} (kind f : α → VP) (slots : Option α → List Slot) (pr : α → Bool) (hasg : ∀ o a, Asg C fr n (slots o) tgt (kind a) (slots (some a))) :
    ∀ (l : List α) (o : Option α), (∀ a ∈ l, EvIfs C fr n (slots (some a)) ifs (pr a)) → (∀ a ∈ l, pr a = true → Ev C fr n (slots (some a)) elt (f a)) → CTurns C fr n elt tgt ifs (slots o) (l.map kind) ((l.filter pr).map f)
  | [], _, _, _ => .nil
  | a :: r, o, h1, h2 => by
    have ih := CTurns.sel kind f slots pr hasg r (some a) (fun b hb => h1 b (.tail _ hb)) fun b hb => h2 b (.tail _ hb)
    have q := h1 a (.head _)
    cases e : pr a with
    | true => rw [e] at q; rw [List.filter_cons_of_pos e]; exact .keep (hasg o a) q (h2 a (.head _) e) ih
    | false => rw [e] at q; rw [List.filter_cons_of_neg (by rw [e]; decide)]; exact .skip (hasg o a) q ih
theorem CTurns.map {α : Type} {elt tgt : Expr} (kind f : α → VP) (slots : Option α → List Slot) (hasg : ∀ o a, Asg C fr n (slots o) tgt (kind a) (slots (some a))) (l : List α) (o : Option α) (h2 : ∀ a ∈ l, Ev C fr n (slots (some a)) elt (f a)) :
    CTurns C fr n elt tgt [] (slots o) (l.map kind) (l.map f) := by
  have := CTurns.sel (ifs := []) kind f slots (fun _ => true) hasg l o (fun _ _ => EvIfs.none) fun a ha _ => h2 a ha
  rwa [List.filter_eq_self.mpr fun _ _ => rfl] at this

end
end Mine

set_option tactic.hygienic false
set_option maxRecDepth 10000
namespace Mine
open PySem PySem.W PyProof.Rows

theorem zipQ_get : ∀ (ls : List (Addr × List Value)) (k j : Nat) (p : ZI), (zipQ k ls)[j]? = some p → ls[j]? = some (p.l, p.vs)
  | [], _, _, _, h => by rw [zipQ, List.getElem?_nil] at h; cases h
  | a :: r, k, 0, p, h => by rw [zipQ, List.getElem?_cons_zero] at h; cases h; rfl
  | a :: r, k, j + 1, p, h => by rw [zipQ, List.getElem?_cons_succ] at h; rw [List.getElem?_cons_succ]; exact zipQ_get r (k + 1) j p h
theorem all2_lists {S : ASet} {h : Heap} : ∀ {vs : List Value} {cols : List (List VP)}, All2 S h vs (cols.map vLst) →
    ∃ ls : List (Addr × List Value), vs = ls.map (fun p => .ref p.1) ∧ ls.length = cols.length ∧ ∀ (j : Nat) p c, ls[j]? = some p → cols[j]? = some c → S p.1 ∧ PL h p.1 (List.toArray p.2) ∧ All2 S h p.2 c
  | [], [], _ => ⟨[], rfl, rfl, fun j p c e => by rw [List.getElem?_nil] at e; cases e⟩
  | [], _ :: _, x => x.elim
  | _ :: _, [], x => x.elim
  | v :: vs, c :: cols, ⟨a, b⟩ => by
    obtain ⟨ls, h1, h2, h3⟩ := all2_lists b
    obtain ⟨i, ws, rfl, hs, hl, hx⟩ := a
    refine ⟨(i, ws) :: ls, by rw [h1]; rfl, congrArg Nat.succ h2, fun j p c' e e' => ?_⟩
    cases j with
    | zero => cases e; cases e'; exact ⟨hs, hl, hx⟩
    | succ j => exact h3 j p c' e e'

section
variable {C : Cx} {fr : Shape} {n : Nat} {vals vals' : List Slot}


theorem EvIt.zip {x : Str} {np pos : Pos} {es : List Expr} {tgt : Expr} {cols rows : List (List VP)} (hf : Ev C fr n vals (.Name x np) (vIs (.type "zip"))) (ha : EvArgs C fr n vals es (cols.map vLst)) (tg : isTup tgt = true) (hne : cols ≠ []) (hsz : cols.length ≤ sizeLine)
    (hr : ∀ r ∈ rows, r.length = cols.length) (hc : ∀ (j : Nat) c, cols[j]? = some c → c = rows.map fun r => r.getD j vNone)
    (hk : ∀ ls : List Value, ls.length = cols.length → checkTypeCall "zip" ⟨ls, []⟩ = pure () ∧ checkBuiltinCall "zip.__new__" ⟨.type "zip" :: ls, []⟩ = pure () ∧ ∀ obj, argsOk "object.__init__" ⟨obj :: ls, []⟩) :
    EvIt C fr n vals tgt (.Call (.Name x np) es [] pos) (rows.map vTup) := fun hb env A S s F =>
  wpAny_Call_NameR (Gives.seq (q := vNone) (hf hb env A S s F) fun v S₁ s₁ g e => by
    cases (show v = .type "zip" from e)
    refine callWith_g (first := []) (F.grow g) (KeepOk.type "zip") ha fun S₂ s₂ vs g₂ y => ?_
    obtain ⟨ls, rfl, hl, hx⟩ := all2_lists y
    have hlc : ∀ (j : Nat) p, ls[j]? = some p → ∃ c, cols[j]? = some c := fun j p h => ⟨_, List.getElem?_eq_getElem (by rw [← hl]; exact (List.getElem?_eq_some_iff.mp h).1)⟩
    obtain ⟨k1, k2, k3⟩ := hk (ls.map fun p => Value.ref p.1) (by rw [List.length_map, hl])
    refine call_zipL (fun p hp => ?_) (by rw [hl]; exact hsz) k1 k2 k3 fun h' z TI TO Z kp z0 t0 o0 => ?_
    · obtain ⟨j, hj⟩ := List.mem_iff_getElem?.mp hp
      obtain ⟨c, hc'⟩ := hlc j p hj
      exact (hx j p c hj hc').2.1.isList
    · have nS : ∀ {a}, s₂.heap.get? a = none → ¬ S₂ a := fun e q => not_live e (g₂.inv.live _ q)
      have ge : ∀ {a}, s₂.heap.objs.size ≤ a → s₂.heap.get? a = none := fun {a} ha => by
        cases e : s₂.heap.get? a with
        | none => rfl
        | some o => exact absurd (Heap.lt_size e) (Nat.not_lt.mpr ha)
      have g₃ : Grow C S₂ s₂ (fun a => S₂ a ∨ a = TI) { s₂ with heap := h' } := grow_of_kept (tk := s₂.toks) g₂.inv kp (fun _ h => .inl h) fun a h => h.imp id fun e => by rw [show a = TI from e]; exact ⟨t0, live_of Z.hTI⟩
      have fresh : ∀ a ∈ z :: TO :: (zipQ s₂.heap.objs.size ls).map (·.i), s₂.heap.get? a = none ∧ a ≠ TI := fun a ha => by
        rcases List.mem_cons.mp ha with rfl | ha
        · exact ⟨z0, cls_ne Z.hz Z.hTI rfl rfl (by decide)⟩
        · rcases List.mem_cons.mp ha with rfl | ha
          · exact ⟨o0, Z.ne.symm⟩
          · obtain ⟨p, hp, rfl⟩ := List.mem_map.mp ha
            obtain ⟨o, e, c⟩ := iter_cls (Z.its p hp)
            exact ⟨ge (zipQ_ge ls _ p hp).1, cls_ne e Z.hTI c rfl (by decide)⟩
      refine pyIter_zipL Z.hz ⟨z, _, _, rfl, (g.trans g₂).trans g₃, .zip ?_ ?_ (.inr rfl) Z (fun r h => ?_) (fun j p h => ?_), fun a ha => ⟨?_, fun q => ?_⟩, .inr tg⟩
      · intro h
        have := congrArg List.length h
        rw [zipQ_length, hl] at this
        exact hne (List.length_eq_zero_iff.mp this)
      · rw [zipQ_length, hl]; exact hsz
      · rw [zipQ_length, hl]; exact hr r h
      · have hj := zipQ_get ls _ j p h
        obtain ⟨c, hc'⟩ := hlc j _ hj
        obtain ⟨x1, x2, x3⟩ := hx j _ c hj hc'
        rw [hc j c hc'] at x3
        exact ⟨.inl x1, x2.keeps kp, (x3.keep fun b o _ e => kp b o e).mono fun _ h => .inl h⟩
      · exact fun q => q.elim (nS (fresh a ha).1) (fresh a ha).2
      · exact not_live (fresh a ha).1 (g₂.alive (g.alive q)))

theorem zip_ok2 : ∀ ls : List Value, ls.length = 2 → checkTypeCall "zip" ⟨ls, []⟩ = pure () ∧ checkBuiltinCall "zip.__new__" ⟨.type "zip" :: ls, []⟩ = pure () ∧ ∀ obj, argsOk "object.__init__" ⟨obj :: ls, []⟩ := fun ls e => by
  obtain ⟨a, r1, rfl, e1⟩ := len_cons e
  obtain ⟨b, r2, rfl, e2⟩ := len_cons e1
  cases List.length_eq_zero_iff.mp e2
  exact ⟨PySem.F.typeCall_zip_2 a b, PySem.F.newCall_zip_2 a b, fun obj => PySem.F.args_object_init_3 obj a b⟩
theorem zip_ok4 : ∀ ls : List Value, ls.length = 4 → checkTypeCall "zip" ⟨ls, []⟩ = pure () ∧ checkBuiltinCall "zip.__new__" ⟨.type "zip" :: ls, []⟩ = pure () ∧ ∀ obj, argsOk "object.__init__" ⟨obj :: ls, []⟩ := fun ls e => by
  obtain ⟨a, r1, rfl, e1⟩ := len_cons e
  obtain ⟨b, r2, rfl, e2⟩ := len_cons e1
  obtain ⟨c, r3, rfl, e3⟩ := len_cons e2
  obtain ⟨d, r4, rfl, e4⟩ := len_cons e3
  cases List.length_eq_zero_iff.mp e4
  refine ⟨by kernel_rfl, by kernel_rfl, fun obj => ?_⟩
  unfold argsOk; rw [signature?_of (id := "object.__init__") (n := ['_', '_', 't', 'i', 'n', 'i', '_', '_']) (o := ['t', 'c', 'e', 'j', 'b', 'o']) (by kernel_rfl) PySem.F.owner_object]; kernel_rfl
end
end Mine

set_option tactic.hygienic true
set_option genInjectivity false
set_option genSizeOf false
set_option genSizeOfSpec false
set_option maxRecDepth 10000
namespace Mine
open PySem PySem.W PyProof.Rows


structure WsS where
  count : List Int
  b : Int
  n : Int
  nt : Int


noncomputable def bump0 (count : List Int) (b : Int) : List Int := if b ≥ count.length then count ++ List.replicate (b - count.length + 1).toNat 0 else count
noncomputable def bump (count : List Int) (b : Int) : List Int := (bump0 count b).set b.toNat ((bump0 count b).getD b.toNat 0 + 1)

noncomputable def wsScan : List Nat → WsS → WsS
  | [], st => st
  | c :: r, st => if c = 32 then wsScan r ⟨st.count, st.b + 1, st.n + 1, st.nt⟩ else if c = 9 then wsScan r ⟨bump st.count st.b, 0, st.n + 1, st.nt + 1⟩ else st

noncomputable def wsCh : List Nat → Slot → Slot
  | [], s => s
  | c :: r, _ => if c = 32 then wsCh r (.val (vS [c])) else if c = 9 then wsCh r (.val (vS [c])) else .val (vS [c])
noncomputable def wsOf (l : List Nat) : WsS := wsScan l ⟨[], 0, 0, 0⟩

noncomputable def normP (w : WsS) : VP := vTup [vTup (w.count.map vInt), vInt w.b]
noncomputable def wsAttrs (l : List Nat) (w : WsS) : List (Str × VP) := [("raw", vS l), ("n", vInt w.n), ("nt", vInt w.nt), ("norm", normP w), ("is_simple", vBool (decide ((w.count.length : Int) ≤ 1)))]

theorem bump0_length {count : List Int} {b : Int} (hb : 0 ≤ b) : b.toNat < (bump0 count b).length ∧ (bump0 count b).length ≤ max count.length (b.toNat + 1) := by
  obtain ⟨m, rfl⟩ := Int.eq_ofNat_of_zero_le hb
  unfold bump0
  split
  · rename_i h
    have h : count.length ≤ m := Int.ofNat_le.mp h
    have e : (((m : Int) - count.length + 1).toNat) = m - count.length + 1 := by rw [← Int.ofNat_sub h]; rfl
    rw [List.length_append, List.length_replicate, e, ← Nat.add_assoc, Nat.add_sub_cancel' h]
    exact ⟨Nat.lt_succ_self m, Nat.le_max_right _ _⟩
  · rename_i h
    exact ⟨Int.ofNat_lt.mp (Int.not_le.mp h), Nat.le_max_left _ _⟩
theorem bump_length {count : List Int} {b : Int} (hb : 0 ≤ b) : (bump count b).length ≤ max count.length (b.toNat + 1) := by
  unfold bump; rw [List.length_set]; exact (bump0_length hb).2

theorem wsScan_length (N : Nat) : ∀ (l : List Nat) (st : WsS), 0 ≤ st.b → st.count.length ≤ N → st.b.toNat + l.length + 1 ≤ N → (wsScan l st).count.length ≤ N
  | [], _, _, h2, _ => h2
  | c :: r, st, h, h2, h3 => by
    unfold wsScan
    split
    · refine wsScan_length N r ⟨st.count, st.b + 1, st.n + 1, st.nt⟩ (Int.add_nonneg h (by decide)) h2 ?_
      show (st.b + 1).toNat + r.length + 1 ≤ N
      rw [Int.toNat_add h (by decide), show (1 : Int).toNat = 1 from rfl, Nat.add_right_comm st.b.toNat]
      exact h3
    · split
      · refine wsScan_length N r ⟨bump st.count st.b, 0, st.n + 1, st.nt + 1⟩ (Int.le_refl _) (Nat.le_trans (bump_length h) (Nat.max_le.mpr ⟨h2, Nat.le_trans (Nat.succ_le_succ (Nat.le_add_right _ _)) h3⟩)) ?_
        show 0 + r.length + 1 ≤ N
        rw [Nat.zero_add]
        exact Nat.le_trans (Nat.le_add_left _ _) (Nat.le_of_succ_le h3)
      · exact h2
theorem wsOf_length {l : List Nat} (h : l.length ≤ 1000) : (wsOf l).count.length ≤ 1001 :=
  wsScan_length 1001 l ⟨[], 0, 0, 0⟩ (by decide) (Nat.zero_le _) (show 0 + l.length + 1 ≤ 1001 by rw [Nat.zero_add]; exact Nat.succ_le_succ h)

noncomputable def runOf (w : WsS) : Int := max ((w.count.length : Int) - 1) w.b
noncomputable def levelSum (w : WsS) (ts : Int) : Int := (rangeL ts w.count.length 1).foldl (fun il i => il + i / ts * w.count.getD i.toNat 0) 0
noncomputable def levelOf (w : WsS) (ts : Int) : Int := w.b + ts * (levelSum w ts + w.nt)

noncomputable def WsS.small (w : WsS) : Prop := w.count.length ≤ 1001 ∧ 0 ≤ w.b ∧ w.b ≤ 1001

theorem WsS.small.run {w : WsS} (h : w.small) : 0 ≤ runOf w ∧ runOf w ≤ 1001 :=
  ⟨Int.le_trans h.2.1 (Int.le_max_right _ _), Int.max_le.mpr ⟨Int.le_trans (Int.sub_le_self _ (by decide)) (Int.ofNat_le.mpr h.1), h.2.2⟩⟩
theorem wsScan_b : ∀ (l : List Nat) (st : WsS), 0 ≤ st.b → 0 ≤ (wsScan l st).b ∧ (wsScan l st).b ≤ st.b + l.length
  | [], st, _ => by simp only [wsScan, List.length_nil]; lia
  | c :: r, st, h => by
    unfold wsScan
    split
    · have := wsScan_b r ⟨st.count, st.b + 1, st.n + 1, st.nt⟩ (by dsimp only; lia)
      dsimp only at this; simp only [List.length_cons]; lia
    · split
      · have := wsScan_b r ⟨bump st.count st.b, 0, st.n + 1, st.nt + 1⟩ (by dsimp only; lia)
        dsimp only at this; simp only [List.length_cons]; lia
      · simp only [List.length_cons]; lia
theorem wsOf_small {l : List Nat} (h : l.length ≤ 1000) : (wsOf l).small := by
  have q := wsScan_b l ⟨[], 0, 0, 0⟩ (by decide)
  dsimp only at q
  refine ⟨wsOf_length h, q.1, ?_⟩
  unfold wsOf; lia

theorem reads_norm (w : WsS) : (normP w).Reads (.tuple [.tuple (w.count.map .int), .int w.b]) := by
  refine reads_tup ⟨reads_tup ?_, reads_int _, trivial⟩
  exact readsL_map vInt .int (fun i => reads_int i) w.count
theorem shaped_norm (w : WsS) : SeqAt.shaped (.tuple [.tuple (w.count.map .int), .int w.b]) = true := by
  have h1 := canLay_ints w.count
  have h2 := depth_ints w.count
  refine Bool.and_eq_true_iff.mpr ⟨?_, decide_eq_true ?_⟩
  · simp only [PyData.canLay0, PyData.canLayAll0, h1, Bool.and_true]
  · simp only [PyData.depth, PyData.depthAll]; lia

noncomputable def clsTxt (K : Frag) (Cl : Addr) (name : Str) (l : List Nat) : Bool := match findCls K (.ref Cl) (.type "type") name with
  | some (.val (.str s _)) => s == ⟨l.toArray⟩
  | _ => false

section
variable {C : Cx} {fr : Shape} {n : Nat} {vals vals' : List Slot} {K : Frag}

theorem Ev.clsTxt {e : Expr} {name : Str} {pos : Pos} {Cl : Addr} {l : List Nat} (h : Ev C fr n vals e (vIs (.ref Cl))) (X : K.In C.base) (hr : readsIn K Cl (.type "type") = true) (hf : clsTxt K Cl name l = true)
    (hbase : ∀ env, attributeBase e name env (eval e env) = eval e env := by intro _; rfl) : Ev C fr n vals (.Attribute e name pos) (vS l) := by
  unfold Mine.clsTxt at hf
  split at hf
  · rename_i s t hq
    have := eq_of_beq hf
    subst this
    exact Ev.clsAttr h X hr hq rfl (fun _ _ => ⟨t, rfl⟩) hbase
  · cases hf

theorem Ex1.conv {st : Stmt} {o o' : Out} (h : Ex1 C fr n vals st o) (e : o = o') : Ex1 C fr n vals st o' := e ▸ h
theorem Ex.conv {st : List Stmt} {o o' : Out} (h : Ex C fr n vals st o) (e : o = o') : Ex C fr n vals st o' := e ▸ h

theorem iter_text {l : List Nat} : IterG C (vS l) (l.map fun c => vS [c]) := IterG.str (x := ⟨l.toArray⟩)

end
end Mine

set_option tactic.hygienic false
set_option maxRecDepth 10000
namespace Mine
open PySem PySem.W PyProof.Rows


noncomputable def srevGo (nx : Int → Option (Int × Int)) (col : Int) : Nat → Option (Int × Int) → Int × Int → Option (Int × Int)
  | 0, f, _ => f
  | k + 1, f, m => if m.1 < col ∧ m.2 ≤ col then (match nx (if m.1 = m.2 then m.2 + 1 else m.2) with
      | none => some m
      | some m' => srevGo nx col k (some m) m') else f
noncomputable def srev (nx : Int → Option (Int × Int)) (col : Int) : Option (Int × Int) := match nx 0 with
  | none => none
  | some m => srevGo nx col (2 * col + 5).toNat none m


noncomputable def Goes (nx : Int → Option (Int × Int)) : Prop := ∀ b i j, nx b = some (i, j) → b ≤ j ∧ (i ≠ j → b < j)


noncomputable def nxS : List (Int × Int) → Int → Option (Int × Int)
  | [], _ => none
  | s :: r, b => if b < s.2 then some (max s.1 b, s.2) else nxS r b
theorem nxS_goes (sp : List (Int × Int)) : Goes (nxS sp) := by
  intro b i j h
  induction sp with
  | nil => cases h
  | cons s r ih =>
    unfold nxS at h
    split at h
    · cases h; lia
    · exact ih h

noncomputable def resP (hit : Int → Int → VP) : Option (Int × Int) → VP
  | none => vNone
  | some m => hit m.1 m.2

section
variable {C : Cx} {n : Nat}
theorem FnG.le {k : Nat} {f : Value} {ps : List VP} {r : VP} (h : FnG C k f ps r) (hk : k ≤ n) : FnG C n f ps r := fun A S s vs I hA hx => h A S s vs I (hA.le hk) hx
theorem Wh.run {σ : Type} {fr : Shape} {test : Expr} {body : List Stmt} (slots : σ → List Slot) (inv : σ → Nat → Prop) (Post : List Slot → Prop)
    (h : ∀ st k, inv st k → (EvB C fr n (slots st) test false ∧ Post (slots st)) ∨ (∃ st' k', k' < k ∧ EvB C fr n (slots st) test true ∧ Ex C fr n (slots st) body (.next (slots st')) ∧ inv st' k') ∨ ∃ v, EvB C fr n (slots st) test true ∧ Ex C fr n (slots st) body (.brk v) ∧ Post v) :
    ∀ (k : Nat) (st : σ), inv st k → ∃ k' v, Wh C fr n test body k' (slots st) (.next v) ∧ Post v := by
  intro k
  induction k using Nat.strongRecOn with
  | ind k ih =>
    intro st hi
    rcases h st k hi with ⟨h1, h2⟩ | ⟨st', k', hk, h1, h2, h3⟩ | ⟨v, h1, h2, h3⟩
    · exact ⟨0, _, .stop h1, h2⟩
    · obtain ⟨k2, v, h4, h5⟩ := ih k' hk st' h3
      exact ⟨k2 + 1, v, .next h1 h2 h4, h5⟩
    · exact ⟨0, v, .brk h1 h2, h3⟩

theorem Ex.while_run {σ : Type} {fr : Shape} {test : Expr} {body rest : List Stmt} {pos : Pos} {o : Out} (slots : σ → List Slot) (inv : σ → Nat → Prop) (Post : List Slot → Prop) (k : Nat) (st : σ) (hi : inv st k) (hr : ∀ v, Post v → Ex C fr n v rest o)
    (h : ∀ st k, inv st k → (EvB C fr n (slots st) test false ∧ Post (slots st)) ∨ (∃ st' k', k' < k ∧ EvB C fr n (slots st) test true ∧ Ex C fr n (slots st) body (.next (slots st')) ∧ inv st' k') ∨ ∃ v, EvB C fr n (slots st) test true ∧ Ex C fr n (slots st) body (.brk v) ∧ Post v) :
    Ex C fr n (slots st) (.While test body [] pos :: rest) o := by
  obtain ⟨k', v, hW, hv⟩ := Wh.run slots inv Post h k st hi
  exact Ex.cons (Ex1.while_ hW) (hr v hv)


structure HitOk (C : Cx) (n : Nat) (hit : Int → Int → VP) : Prop where
  is : ∀ i j, ∃ sp : VP, hit i j = vFun [("span", sp)] ∧ sp.IsFn ∧ CallG C n sp [] (vTup [vInt i, vInt j])

theorem HitOk.tru {hit : Int → Int → VP} (H : HitOk C n hit) (i j : Int) : TruG C (hit i j) true := by
  obtain ⟨sp, e, _⟩ := H.is i j; rw [e]; exact TruG.fun_
theorem HitOk.notNone {hit : Int → Int → VP} (H : HitOk C n hit) (i j : Int) : (hit i j).NotNone := by
  obtain ⟨sp, e, _⟩ := H.is i j; rw [e]; exact notNone_fun

theorem HitOk.span {hit : Int → Int → VP} (H : HitOk C n hit) {fr : Shape} {vals : List Slot} {e : Expr} {ap cp : Pos} {i j : Int} (h : Ev C fr n vals e (hit i j)) (hb : ∀ env, attributeBase e "span" env (eval e env) = eval e env) (hl : (ap.endLine == cp.line) = true) :
    Ev C fr n vals (.Call (.Attribute e "span" ap) [] [] cp) (vTup [vInt i, vInt j]) := by
  obtain ⟨sp, e1, e2, e3⟩ := H.is i j
  rw [e1] at h
  exact Ev.callAttr h rfl e2 .nil fnSpan e3 hb (by decide) hl
end
end Mine

set_option tactic.hygienic false
set_option maxRecDepth 10000
namespace Mine
open PySem PySem.W PyProof.Rows

noncomputable def cloB (scope : Scope) (xs locs cn : List Str) : Bool :=
  scope.kind == .function && !scope.isCoroutine && !scope.isGenerator && scope.names.all (fun x => x.2 != .cell) && xs.all (fun x => scope.names.lookup x == some .local) && cn.all (fun x => scope.names.lookup x == some .free) && decide (xs ++ (locs ++ cn)).Nodup
theorem CloShape.of {scope : Scope} {xs locs cn : List Str} (h : cloB scope xs locs cn = true) : CloShape scope xs locs cn := by
  unfold cloB at h
  simp only [Bool.and_eq_true, Bool.not_eq_true', beq_iff_eq, List.all_eq_true, bne_iff_ne, decide_eq_true_eq] at h
  obtain ⟨⟨⟨⟨⟨⟨h1, h2⟩, h3⟩, h4⟩, h5⟩, h6⟩, h7⟩ := h
  exact ⟨h1, h2, h3, h4, h5, h6, h7⟩

noncomputable def lamOf : Expr → Arguments × Expr × Scope × Pos
  | .Lambda p e s q => (p, e, s, q)
  | _ => default
noncomputable def valOf : Stmt → Expr
  | .Assign _ e _ => e
  | _ => default
noncomputable def stAt (b : List Stmt) (i : Nat) : Stmt := (b[i]?).getD default
noncomputable def defOf : Stmt → Arguments × List Stmt × Scope × Pos
  | .FunctionDef _ a b _ _ _ s _ _ p => (a, b, s, p)
  | _ => default

noncomputable abbrev innerQ (K : Frag) (a : Addr) (x : Str) : Str := (fnAt K a).qualname ++ ".<locals>." ++ x
noncomputable abbrev lamAt (K : Frag) (a : Addr) (i : Nat) : Arguments × Expr × Scope × Pos := lamOf (valOf (stAt (bodyOf (fnAt K a)) i))
noncomputable abbrev defAt (K : Frag) (a : Addr) (i : Nat) : Arguments × List Stmt × Scope × Pos := defOf (stAt (bodyOf (fnAt K a)) i)


noncomputable def hitTab (K : Frag) (a c P : Addr) : TabSpec := ⟨c, P, [((lamAt K a 0).2.2.2, innerQ K a "<lambda>"), ((lamAt K a 1).2.2.2, innerQ K a "<lambda>")]⟩
noncomputable def progTab (K : Frag) (a c P : Addr) : TabSpec := ⟨c, P, [((defAt K a 0).2.2.2, innerQ K a "search"), ((lamAt K a 1).2.2.2, innerQ K a "<lambda>")]⟩

noncomputable def spanVP (K : Frag) (a : Addr) (cells : List (Str × VP)) : VP := vClo "<lambda>" (innerQ K a "<lambda>") (lamAt K a 1).1 (.expr (lamAt K a 1).2.1) (lamAt K a 1).2.2.1 none cells
noncomputable def hitVP (K : Frag) (a : Addr) (cells : List (Str × VP)) : VP := vFun [("span", spanVP K a cells)]
noncomputable def searchVP (K : Frag) (a : Addr) (cells : List (Str × VP)) : VP := vClo "search" (innerQ K a "search") (defAt K a 0).1 (.stmts (defAt K a 0).2.1) (defAt K a 0).2.2.1 (some [vInt 0]) cells
noncomputable def progVP (K : Frag) (a : Addr) (cells : List (Str × VP)) : VP := vFun [("search", searchVP K a cells)]

end Mine

set_option tactic.hygienic false
set_option maxRecDepth 10000
namespace Mine
open PySem PySem.W PyProof.Rows

noncomputable def colStep (size c : Int) (x : Nat) : Int := if x = 32 then c + 1 else c - c % size + size
noncomputable def colWalk (size : Int) (l : List Nat) : Int := l.foldl (colStep size) 0
theorem eqv_int (a b : Int) : PyData.eqv (.int a) (.int b) = decide (a = b) := by
  by_cases h : a = b
  · subst h; simp [PyData.eqv]
  · simp [PyData.eqv, h]
theorem eqvAll_ints : ∀ (a b : List Int), PyData.eqvAll (a.map .int) (b.map .int) = decide (a = b)
  | [], [] => rfl
  | [], _ :: _ => rfl
  | _ :: _, [] => rfl
  | x :: a, y :: b => by
    show (PyData.eqv (.int x) (.int y) && PyData.eqvAll (a.map .int) (b.map .int)) = _
    rw [eqv_int, eqvAll_ints a b, ← Bool.decide_and]
    congr 1; simp
theorem FnG.conv {C : Cx} {n : Nat} {f : Value} {ps : List VP} {r r' : VP} (h : FnG C n f ps r) (e : r = r') : FnG C n f ps r' := e ▸ h

end Mine

namespace Mine
open PySem PySem.W PyProof.Rows
end Mine

set_option tactic.hygienic false
set_option maxRecDepth 10000
namespace Mine
open PySem PySem.W PyProof.Rows


noncomputable def Forget : List Slot → List Slot → Prop
  | [], [] => True
  | a :: r, b :: q => (b = a ∨ b = .un) ∧ Forget r q
  | _, _ => False
theorem Forget.get : ∀ {a b : List Slot}, Forget a b → a.length = b.length ∧ ∀ (i : Nat) (t : Slot), b[i]? = some t → t = .un ∨ a[i]? = some t
  | [], [], _ => ⟨rfl, fun i t h => by simp at h⟩
  | x :: r, y :: q, ⟨h, k⟩ => ⟨by simp [k.get.1], fun i t e => by
      cases i with
      | zero => simp at e; subst e; rcases h with h | h
                · exact .inr (by simp [h])
                · exact .inl h
      | succ i => simp at e; simpa using k.get.2 i t e⟩
  | [], _ :: _, h => h.elim
  | _ :: _, [], h => h.elim

section
variable {C : Cx} {fr : Shape} {n : Nat} {vals vals' : List Slot}
theorem FrameOk.forget {hb env A S s} (F : FrameOk C fr n hb env A S s vals) (h : Forget vals vals') : FrameOk C fr n hb env A S s vals' := by
  obtain ⟨f, h1, h2, h3⟩ := F.slots
  obtain ⟨k1, k2⟩ := h.get
  refine { F with slots := ⟨f, h1.trans k1, fun i x t hx ht => ?_, fun i j l l' hi hj e => ?_⟩ }
  · rcases k2 i t ht with rfl | q
    · trivial
    · exact h2 i x t hx q
  · rcases k2 i _ hi with q | q
    · cases q
    · rcases k2 j _ hj with q' | q'
      · cases q'
      · exact h3 i j l l' q q' e
theorem Ex.forgetOut {ss : List Stmt} {v v' : List Slot} (h : Ex C fr n vals ss (.next v)) (hf : Forget v v') : Ex C fr n vals ss (.next v') := fun hb env A S s F =>
  wpAny_mono (h hb env A S s F) (fun f s' ⟨S', st, y⟩ => ⟨S', st, by cases f <;> first | exact y.elim | exact FrameOk.forget y hf⟩) fun _ _ z => z
theorem Ev.neg {x : Expr} {pos : Pos} {i : Int} (h : Ev C fr n vals x (vInt i)) : Ev C fr n vals (.UnaryOp .USub x pos) (vInt (-i)) := fun hb env A S s F =>
  wpAny_UnaryOp (Gives.seq (q := vInt (-i)) (h hb env A S s F) fun v S₁ s₁ g x => by
    obtain ⟨t, rfl⟩ := int_of x
    exact PySem.P.neg_int ⟨S₁, g.trans (Grow.tok g.inv _), _, rfl⟩)
end
end Mine

set_option tactic.hygienic false
set_option genInjectivity false
set_option genSizeOf false
set_option genSizeOfSpec false
set_option maxRecDepth 10000
namespace Mine
open PySem PySem.W PyProof.Rows

noncomputable def rowAt (rows : List (List Nat)) (k : Int) : List Nat := rows.getD k.toNat []
noncomputable def aheadOf (sp : List (Int × Int)) (place : Int) : List (Int × Int) := sp.filter fun s => decide (s.2 ≤ place)
theorem cut_map {α β : Type} (f : α → β) (l : List α) (lo hi : Option Int) : cut (l.map f) lo hi = (cut l lo hi).map f := by
  unfold cut
  simp only [List.length_map, List.map_drop, List.map_take]
theorem cut_sub {α : Type} (l : List α) (lo hi : Option Int) : ∀ x ∈ cut l lo hi, x ∈ l := by
  intro x hx
  unfold cut at hx
  exact List.mem_of_mem_drop (List.mem_of_mem_take hx)
theorem clipAt_pos {k : Nat} {i : Int} (h : 0 ≤ i) : clipAt k i = min i.toNat k := by
  obtain ⟨m, rfl⟩ := Int.eq_ofNat_of_zero_le h
  unfold clipAt
  rw [if_neg (Int.not_lt.mpr h), Int.max_eq_right (Int.le_min.mpr ⟨h, Int.natCast_nonneg _⟩)]
  rcases Nat.le_total m k with q | q
  · rw [Int.min_eq_left (Int.ofNat_le.mpr q), Int.toNat_natCast, Nat.min_eq_left q]
  · rw [Int.min_eq_right (Int.ofNat_le.mpr q), Int.toNat_natCast, Int.toNat_natCast, Nat.min_eq_right q]
theorem cut_take {α : Type} (l : List α) {g : Int} (h : 0 ≤ g) : cut l none (some g) = l.take g.toNat := by
  unfold cut
  simp only [Option.elim, List.drop_zero, Nat.sub_zero, clipAt_pos h]
  rw [List.take_eq_take_iff, Nat.min_assoc, Nat.min_self]
theorem cut_drop {α : Type} (l : List α) {g : Int} (h : 0 ≤ g) : cut l (some g) none = l.drop g.toNat := by
  unfold cut
  simp only [Option.elim, clipAt_pos h]
  rw [List.take_of_length_le (by rw [List.length_drop]; lia)]
  by_cases q : g.toNat ≤ l.length
  · rw [Nat.min_eq_left q]
  · rw [Nat.min_eq_right (by lia), List.drop_length, List.drop_of_length_le (by lia)]
noncomputable abbrev spanP (s : Int × Int) : VP := vTup [vInt s.1, vInt s.2]
noncomputable def spanD (s : Int × Int) : PyData := .tuple [.int s.1, .int s.2]
theorem reads_span (s : Int × Int) : (spanP s).Reads (spanD s) := reads_tup ⟨reads_int _, reads_int _, trivial⟩
theorem reads_spans (a : List (Int × Int)) : (vLst (a.map spanP)).Reads (.list (a.map spanD)) := reads_lst (readsL_map spanP spanD reads_span a)
theorem eqv_span (a b : Int × Int) : PyData.eqv (spanD a) (spanD b) = decide (a = b) := by
  show (PyData.eqv (.int a.1) (.int b.1) && (PyData.eqv (.int a.2) (.int b.2) && true)) = _
  rw [eqv_int, eqv_int, Bool.and_true, ← Bool.decide_and]
  congr 1
  exact propext ⟨fun h => Prod.ext h.1 h.2, fun h => by rw [h]; exact ⟨rfl, rfl⟩⟩
theorem eqv_spans : ∀ (a b : List (Int × Int)), PyData.eqvAll (a.map spanD) (b.map spanD) = decide (a = b)
  | [], [] => rfl
  | [], _ :: _ => rfl
  | _ :: _, [] => rfl
  | x :: a, y :: b => by
    show (PyData.eqv (spanD x) (spanD y) && PyData.eqvAll (a.map spanD) (b.map spanD)) = _
    rw [eqv_span, eqv_spans a b, ← Bool.decide_and]
    congr 1; simp
theorem canLay_spans (a : List (Int × Int)) : PyData.canLayAll0 (a.map spanD) = true := by
  induction a with
  | nil => rfl
  | cons x r ih => simp [PyData.canLayAll0, PyData.canLay0, spanD, ih]
theorem depth_spans (a : List (Int × Int)) : PyData.depthAll (a.map spanD) ≤ 3 := by
  induction a with
  | nil => simp [PyData.depthAll]
  | cons x r ih => simp [PyData.depthAll, PyData.depth, spanD]; lia
theorem shaped_spans (a : List (Int × Int)) : SeqAt.shaped (.list (a.map spanD)) = true := by
  have h1 := canLay_spans a
  have h2 := depth_spans a
  refine Bool.and_eq_true_iff.mpr ⟨?_, decide_eq_true ?_⟩
  · simp only [PyData.canLay0, h1]
  · simp only [PyData.depth]; lia
theorem CmpG.eqSpans {C : Cx} {a b : List (Int × Int)} : CmpG C .Eq (vLst (a.map spanP)) (vLst (b.map spanP)) (decide (a = b)) := by
  rw [← eqv_spans]; exact CmpG.eqD (reads_spans a) (reads_spans b) (shaped_spans a) (shaped_spans b)
theorem CmpG.neSpans {C : Cx} {a b : List (Int × Int)} : CmpG C .NotEq (vLst (a.map spanP)) (vLst (b.map spanP)) (!decide (a = b)) := by
  rw [← eqv_spans]; exact CmpG.neD (reads_spans a) (reads_spans b) (shaped_spans a) (shaped_spans b)

theorem sum_le : ∀ {L : List (List Nat)} {k : Nat}, (∀ r ∈ L, r.length ≤ k) → (L.map (·.length)).sum ≤ k * L.length
  | [], _, _ => by simp
  | x :: L, k, h => by
    have := sum_le (L := L) (k := k) fun r hr => h r (.tail _ hr)
    have := h x (.head _)
    simp only [List.map_cons, List.sum_cons, List.length_cons, Nat.mul_add, Nat.mul_one]; lia
theorem joinOn_length (c : Nat) : ∀ (L : List (List Nat)), (joinOn c L).length ≤ (L.map (·.length)).sum + L.length
  | [] => by simp [joinOn]
  | [p] => by simp [joinOn]
  | p :: q :: L => by
    have := joinOn_length c (q :: L)
    simp only [joinOn, List.length_append, List.length_cons, List.map_cons, List.sum_cons] at this ⊢; lia
end Mine

set_option tactic.hygienic false
set_option genInjectivity false
set_option genSizeOf false
set_option genSizeOfSpec false
set_option maxRecDepth 10000
namespace Mine
open PySem PySem.W PyProof.Rows

noncomputable def part1 (k : Int) : List Nat := if k = 0 then [9] else if k = 1 then [32] else if k = 2 then [32, 9] else []
noncomputable def lead1 (v : Int) : List Nat := part1 (v % 4) ++ part1 (v / 4 % 4) ++ part1 (v / 16 % 4)
theorem part1_len (k : Int) : (part1 k).length ≤ 2 := by
  unfold part1
  repeat' split
  all_goals decide
noncomputable def tail1 (v : Int) : List Nat := if v / 64 % 4 = 0 then [120] else if v / 64 % 4 = 1 then [] else if v / 64 % 4 = 2 then [120, 9] else [120, 32, 9, 121]


noncomputable def leadIn (row : List Nat) : List Nat := cut row none (some (wsOf row).n)
noncomputable def isUnit (lead : List Nat) (size k : Int) : Bool := decide (cut lead (some k) (some (k + size)) = List.replicate size.toNat 32) && decide (colWalk size (cut lead none (some k)) % size = 0)
noncomputable def spStep (lead : List Nat) (size : Int) (inward : Bool) (begin : Int) (st : List (Int × Int) × Int) (k : Int) : List (Int × Int) × Int :=
  if inward = true then (if isUnit lead size k = true then (st.1 ++ [(begin + k, begin + k + size)], st.2) else st)
  else (if lead.getD k.toNat 0 = 9 then (st.1 ++ [(begin + st.2, begin + k + 1)], k + 1) else st)
noncomputable def rowSpans (lead : List Nat) (size : Int) (inward : Bool) (begin : Int) (sp : List (Int × Int)) : List (Int × Int) × Int := (rangeL 0 lead.length 1).foldl (spStep lead size inward begin) (sp, 0)
noncomputable def rowStep (size : Int) (inward : Bool) (st : List (Int × Int) × Int) (row : List Nat) : List (Int × Int) × Int :=
  ((rowSpans (leadIn row) size inward st.2 st.1).1, st.2 + row.length + 1)
noncomputable def spans1 (t : List Nat) (size : Int) (inward : Bool) : List (Int × Int) := ((splitOn 10 t).foldl (rowStep size inward) ([], 0)).1


noncomputable def above1 (t : List Nat) (f : Int) : List (List Nat) := splitOn 10 (cut t none (some f))
noncomputable def lastOf (rows : List (List Nat)) : List Nat := rows.getD (rows.length - 1) []
noncomputable def wideOf (t : List Nat) (size : Int) (s : Int × Int) : Int :=
  levelOf (wsOf (lastOf (above1 t s.1) ++ cut t (some s.1) (some s.2))) size - levelOf (wsOf (lastOf (above1 t s.1))) size
noncomputable def written1 (t : List Nat) (size : Int) (inward : Bool) (s : Int × Int) : List Nat := if inward = true then [9] else List.replicate (wideOf t size s).toNat 32
noncomputable def newText (t : List Nat) (size : Int) (inward : Bool) (s : Int × Int) : List Nat := cut t none (some s.1) ++ written1 t size inward s ++ cut t (some s.2) none


noncomputable abbrev tripP (s : Int × Int × Int) : VP := vTup [vInt s.1, vInt s.2.1, vInt s.2.2]
noncomputable def lastRun (one other : List Nat) : Int := maxL ((splitOn 9 (one ++ [9] ++ other)).map fun run => (run.length : Int)) + 1
noncomputable def apartOf (one other : List Nat) : List (Int × Int × Int) :=
  ((rangeL 1 (lastRun one other + 1) 1).map fun size => (size, colWalk size one, colWalk size other)).filter fun p => decide (p.2.1 ≠ p.2.2)
noncomputable def witOf (w v : WsS) : List (Int × Int × Int) :=
  ((rangeL 1 (max (runOf w) (runOf v) + 1 + 1) 1).filter fun ts => decide (levelOf w ts ≠ levelOf v ts)).map fun ts => (ts, levelOf w ts, levelOf v ts)


noncomputable def mixed (l : List Nat) : Bool := !(Builtin.Str.occurrences ⟨l.toArray⟩ ⟨[32, 9].toArray⟩ 0 (⟨l.toArray⟩ : Str).length 1).isEmpty

noncomputable def shortOf (size c : Int) : List Nat := List.replicate (c / size).toNat 9 ++ List.replicate (c % size).toNat 32
noncomputable def swapT (p : Int × Int × Int) : Int × Int × Int := (p.1, p.2.2, p.2.1)
noncomputable def tabsOf (size c : Int) : List Int := if c ≥ size then [c / size] else []


structure QuadOk (size : Int) (lead tail : List Nat) (c : Int) : Prop where
  c0 : 0 ≤ c
  c1 : c ≤ 12
  ll : lead.length ≤ 6
  tl : tail.length ≤ 4
  count : (wsOf (shortOf size c ++ tail)).count = tabsOf size c
  b : (wsOf (shortOf size c ++ tail)).b = c % size
  simple : decide (((wsOf (lead ++ tail)).count.length : Int) ≤ 1) = !mixed lead
  wit1 : witOf (wsOf (lead ++ tail)) (wsOf (shortOf size c ++ tail)) = apartOf lead (shortOf size c)
  wit2 : witOf (wsOf (shortOf size c ++ tail)) (wsOf (lead ++ tail)) = (apartOf lead (shortOf size c)).map swapT


structure PageOk (t : List Nat) : Prop where
  two : (splitOn 10 t).length = 2
  row : ∀ r ∈ splitOn 10 t, r.length ≤ 100
  len : t.length ≤ 300

structure SpanOk (t : List Nat) (size : Int) (inward : Bool) (levels : List Int) (s : Int × Int) : Prop where
  pos : 0 ≤ s.1
  lt : s.1 < s.2
  le : s.2 ≤ 300
  wide : inward = false → 0 ≤ wideOf t size s ∧ wideOf t size s ≤ 1000
  row : (above1 t s.1).length ≤ 2
  level : ∃ r, (splitOn 10 (newText t size inward s))[(above1 t s.1).length - 1]? = some r ∧ r.length ≤ 200 ∧ levels[(above1 t s.1).length - 1]? = some (levelOf (wsOf r) size)
  page : PageOk (newText t size inward s)


noncomputable def RunOk (size : Int) (inward : Bool) (levels : List Int) (fin : List Nat) : Nat → List Nat → Prop
  | 0, t => PageOk t ∧ spans1 t size inward = [] ∧ t = fin
  | k + 1, t => PageOk t ∧ (spans1 t size inward).length = k + 1 ∧ k + 1 ≤ 6 ∧ (∀ b, srev (nxS (spans1 t size inward)) b = (aheadOf (spans1 t size inward) b).getLast?) ∧ aheadOf (spans1 t size inward) t.length = spans1 t size inward ∧
      ∀ s ∈ spans1 t size inward, SpanOk t size inward levels s ∧ RunOk size inward levels fin k (newText t size inward s)

theorem RunOk.page {size : Int} {inward : Bool} {levels : List Int} {fin : List Nat} : ∀ {k : Nat} {t : List Nat}, RunOk size inward levels fin k t → PageOk t
  | 0, _, h => h.1
  | _ + 1, _, h => h.1
theorem RunOk.count {size : Int} {inward : Bool} {levels : List Int} {fin : List Nat} : ∀ {k : Nat} {t : List Nat}, RunOk size inward levels fin k t → (spans1 t size inward).length = k
  | 0, _, h => by rw [h.2.1]; rfl
  | _ + 1, _, h => h.2.1
theorem RunOk.small {size : Int} {inward : Bool} {levels : List Int} {fin : List Nat} : ∀ {k : Nat} {t : List Nat}, RunOk size inward levels fin k t → k ≤ 6
  | 0, _, _ => Nat.zero_le _
  | _ + 1, _, h => h.2.2.1

theorem cut_last {α : Type} {l : List α} {m : α} (h : l.getLast? = some m) : cut l (some (-1)) none = [m] := by
  obtain ⟨pre, rfl⟩ := List.getLast?_eq_some_iff.mp h
  unfold cut
  have e : clipAt (pre ++ [m]).length (-1) = pre.length := by
    unfold clipAt
    rw [if_pos (by decide), List.length_append, List.length_singleton]
    lia
  simp only [Option.elim, e]
  rw [List.drop_left, List.length_append, Nat.add_sub_cancel_left]; rfl

section
variable {C : Cx} {fr : Shape} {n : Nat} {vals vals' : List Slot}

theorem foldl_rep1 (c : Nat) : ∀ (k : Nat) (acc : Array Nat), ((List.replicate k (#[c] : Array Nat)).foldl (· ++ ·) acc) = acc ++ (List.replicate k c).toArray
  | 0, acc => by simp
  | k + 1, acc => by
    rw [List.replicate_succ, List.foldl_cons, foldl_rep1 c k, List.replicate_succ]
    exact Array.toList_inj.mp (by simp)

theorem BinG.mulS {c : Nat} {k : Int} (h0 : -1000 ≤ k) (h1 : k ≤ 100000) : BinG C .Mult (vS [c]) (vInt k) (vS (List.replicate k.toNat c)) := fun A S s x y I _ hx hy => by
  obtain ⟨t, rfl⟩ := str_of hx; obtain ⟨u, rfl⟩ := int_of hy
  have hl : (⟨[c].toArray⟩ : Str).length = 1 := rfl
  refine PySem.P.mul_str ?_ (fun a _ => ?_) (fun _ _ => ?_) ?_
  · rw [decide_eq_false (by lia), decide_eq_false (by lia)]; rfl
  · rw [hl]
    have h2 : (1 : Int) ≤ (2 ^ 63 - 1) / k := by
      rw [Int.le_ediv_iff_mul_le (by lia)]; lia
    exact Int.not_lt.mpr h2
  · rw [hl]
    unfold Builtin.Str.tooLong
    rw [decide_eq_false_iff_not]
    have : sizeLine = 16777216 := rfl
    lia
  · by_cases a : k < 1
    · rw [if_pos a, Int.toNat_of_nonpos (by lia)]
      exact ⟨by decide, S, Grow.tok I _, _, rfl⟩
    · rw [if_neg a]
      by_cases b : k = 1
      · subst b
        exact ⟨S, .refl I, t, rfl⟩
      · have e : (k == 1 || (⟨[c].toArray⟩ : Str).length == 0) = false := by rw [hl]; simpa using b
        rw [if_neg (by rw [e]; decide)]
        have q := foldl_rep1 c k.toNat #[]
        rw [Array.empty_append] at q
        refine ⟨?_, S, Grow.tok I _, s.toks, ?_⟩
        · show Array.size _ ≤ _
          rw [show (List.replicate k.toNat (⟨[c].toArray⟩ : Str).cps).foldl (· ++ ·) #[] = _ from q, List.size_toArray, List.length_replicate, sizeLine_eq]; lia
        · rw [show (List.replicate k.toNat (⟨[c].toArray⟩ : Str).cps).foldl (· ++ ·) #[] = _ from q]
end
end Mine

set_option tactic.hygienic false
set_option maxRecDepth 10000
namespace Mine
open PySem PySem.W PyProof.Rows


noncomputable def sumAt (xs : List Int) (c k : Int) : Int := ((rangeL k xs.length c).map fun i => xs.getD i.toNat 0).sum
noncomputable def backOf (xs : List Int) : List Int := (rangeL 1 (xs.length + 1) 1).map fun k => xs.getD (-k + xs.length).toNat 0
theorem mem_rangeLc {a b c i : Int} (hc : 0 < c) (h : i ∈ rangeL a b c) : a ≤ i ∧ i < b := by
  unfold rangeL at h
  obtain ⟨k, hk, rfl⟩ := List.mem_map.mp h
  rw [List.mem_range] at hk
  have hk0 : (0 : Int) ≤ (k : Int) * c := Int.mul_nonneg (by lia) (by lia)
  split at hk
  · refine ⟨by lia, ?_⟩
    have h1 : (k : Int) ≤ (b - a - 1) / c := by lia
    have h2 : (k : Int) * c ≤ (b - a - 1) / c * c := Int.mul_le_mul_of_nonneg_right h1 (by lia)
    have h3 := Int.ediv_mul_le (b - a - 1) (b := c) (by lia)
    lia
  · lia
theorem rangeLc_length {k : Int} {N : Nat} {c : Int} (hk : 0 ≤ k) (hc : 0 < c) : (rangeL k N c).length ≤ N + 1 := by
  unfold rangeL
  rw [List.length_map, List.length_range]
  split
  · have h1 : (N - k - 1) / c ≤ N - k - 1 := Int.ediv_le_self _ (by lia)
    lia
  · lia
theorem get_int {xs : List Int} {k : Nat} (h : k < xs.length) : (xs.map vInt)[k]? = some (vInt (xs.getD k 0)) := by
  rw [List.getElem?_map, List.getD_eq_getElem?_getD, List.getElem?_eq_getElem h]; rfl
end Mine

set_option tactic.hygienic false
set_option maxRecDepth 10000
namespace Mine
open PySem PySem.W PyProof.Rows


noncomputable def CodeG (C : Cx) (n : Nat) (a : Addr) (ps : List VP) (r : VP) : Prop :=
  ∀ A S s vs (R : Result → Shared → Prop), Inv C S s → AOk n A → All2 S s.heap vs ps → (∀ v S' s', Grow C S s S' s' → r.P S' s'.heap v → R (.ok (.ret v)) s') → codeAny C.M A (.call (.ref a) ⟨vs, []⟩) R s

theorem CodeG.top {C : Cx} {n : Nat} {a : Addr} {fd : FuncData} {body : List Stmt} {xs : List Str} {fr : Shape} {ps : List VP} {o : Out} {r : VP} (D : DefOk C a fd body xs fr) (hl : ps.length = xs.length)
    (h : Ex C fr n (startVals ps (fr.names.length - xs.length)) body o) (he : Ends o r) : CodeG C (n + 1) a ps r := fun A S s vs R I hA hx hR =>
  code_topAt D hl I hA hx fun env A' s₁ _ _ _ g F => wpAny_mono (h _ env A' S s₁ F) (fun f s' pq => by
    obtain ⟨S', st, y⟩ := pq
    have g' : Grow C S s S' s' := Step.trans g st
    cases he with
    | ret p => cases f <;> first | exact y.elim | exact hR _ S' s' g' y
    | next v => cases f <;> first | exact y.elim | exact hR _ S' s' g' rfl) fun _ _ z => z


theorem inv_start {prog : Program} {w : World} {s₁ : Shared} {tabs : List (Addr × Addr)} {specs : List TabSpec} (hT : TabsAt tabs s₁.heap) (hs : specs.map (fun t => (t.c, t.P)) = tabs) :
    Inv ⟨prog, w, ghostOf s₁.heap tabs, specs, s₁.gens, s₁.os⟩ (liveIn (ghostOf s₁.heap tabs)) s₁ := by
  have mem : ∀ t ∈ specs, (t.c, t.P) ∈ tabs := fun t ht => by rw [← hs]; exact List.mem_map_of_mem ht
  refine ⟨fun b o e => ⟨of_hideAll _ e, live_of e⟩, fun a ha => ?_, fun t ht => ?_, fun a ha => ?_, rfl, rfl⟩
  · obtain ⟨o, e⟩ := live_get ha
    exact live_of (of_hideAll _ e)
  · exact ⟨#[], (hT _ (mem t ht)).2, trivial, fun x _ => .inl rfl⟩
  · rintro ⟨t, ht, rfl⟩
    obtain ⟨o, e⟩ := live_get ha
    rw [hideAll_none _ (List.mem_map_of_mem (f := (·.2)) (mem t ht))] at e
    cases e

theorem start_list {w : World} {s₁ : Shared} {tabs : List (Addr × Addr)} {a : Addr} {xs : List Int} (hT : TabsAt tabs s₁.heap) (hw : Well w.params s₁.heap (.ref a) (ofPy (PyData.list (xs.map PyData.int)))) :
    (vLst (xs.map vInt)).P (liveIn (ghostOf s₁.heap tabs)) s₁.heap (.ref a) := by
  have key : ∀ {vs : List Value} {xs : List Int} {S : ASet}, WellAll w.params s₁.heap vs (xs.map fun x => WData.int x) → All2 S s₁.heap vs (xs.map vInt) := by
    intro vs xs
    induction xs generalizing vs with
    | nil => intro S h; cases h; trivial
    | cons x r ih =>
      intro S h
      cases h with
      | cons h1 h2 => cases h1; exact ⟨⟨_, rfl⟩, ih h2⟩
  have e : ofPy (PyData.list (xs.map PyData.int)) = WData.list (xs.map fun x => WData.int x) := by
    have k : ∀ l : List Int, ofPys (l.map PyData.int) = l.map fun x => WData.int x := fun l => by
      induction l with
      | nil => rfl
      | cons x r ih => show ofPy (.int x) :: ofPys _ = _; rw [ih]; rfl
    show WData.list (ofPys _) = _
    rw [k]
  rw [e] at hw
  cases hw with
  | list h1 h2 =>
    have hg := ghost_get hT h1 (by intro q; cases q)
    exact ⟨_, _, rfl, live_of hg, .of h1, key h2⟩

theorem grownAll_of {h : Heap} : ∀ {tabs : List (Addr × Addr)}, (∀ q ∈ tabs, GrownAt q.2 h) → GrownAll tabs h
  | [], _ => trivial
  | _ :: _, k => ⟨k _ (.head _), grownAll_of fun q hq => k q (.tail _ hq)⟩

theorem aok_caller : AOk 20 callerA := ⟨rfl, by decide +kernel, by decide +kernel⟩

theorem law_end {prog : Program} {w : World} {s₁ : Shared} {tabs : List (Addr × Addr)} {specs : List TabSpec} {cw : ClaimW} {cl : Str → Option Addr} {mean : ExcName → Option Value} {args : List WData} {fa a : Addr} {xs : List Int}
    (hT : TabsAt tabs s₁.heap) (hs : specs.map (fun t => (t.c, t.P)) = tabs) (hg : s₁.gens = #[]) (hl : (vLst (xs.map vInt)).P (liveIn (ghostOf s₁.heap tabs)) s₁.heap (.ref a))
    (hfn : CodeG ⟨prog, w, ghostOf s₁.heap tabs, specs, s₁.gens, s₁.os⟩ 20 fa [vLst (xs.map vInt)] (vBool true)) (hpost : cw.post args (.bool true) args = true) (hnr : ∀ cls, cw.raises args cls = false) :
    codeAny (model prog w) callerA (.call (.ref fa) ⟨[.ref a], []⟩) (fun r s' => GoodW cw cl mean args { s₁ with heap := ghostOf s₁.heap tabs } r s' ∧ GrownAll tabs s'.heap) s₁ :=
  hfn callerA _ s₁ [.ref a] _ (inv_start hT hs) aok_caller ⟨hl, trivial⟩ fun v S' s' g hv => by
    cases (show v = .bool true from hv)
    refine ⟨⟨.inl ⟨_, .bool true, [], rfl, hnr, .bool true, hpost, fun _ => ⟨List.nodup_nil, fun _ h => nomatch h⟩⟩, fun b o e => (g.inv.base b o e).1, g.inv.os, g.inv.gens.trans hg⟩, grownAll_of fun q hq => ?_⟩
    rw [← hs] at hq
    obtain ⟨t, ht, rfl⟩ := List.mem_map.mp hq
    obtain ⟨ps, e, _⟩ := g.inv.tab t ht
    exact ⟨ps, e⟩
end Mine

set_option maxRecDepth 10000
set_option linter.all false
namespace Mine
open PySem PySem.W PyProof.Rows


noncomputable def topSt (i : Nat) : Stmt := stAt PySem.Challenge.pw_mr0221_01.main.body i
noncomputable def clsSt (i : Nat) : Stmt := match topSt 5 with
  | .ClassDef _ _ _ b .. => stAt b i
  | _ => default
noncomputable def fnObj (nm qn : Str) (st : Stmt) (c : Addr) (m : Str) (mt : Nat) : Obj := ⟨.type "function", none, .func ⟨nm, qn, (defOf st).1, .stmts (defOf st).2.1, (defOf st).2.2.1, 3, [], .none, .none, .none, .str m mt, none, .ref c, .none, 0⟩, #[]⟩
noncomputable def codeObj (vs : List Value) : Obj := ⟨.type "code", none, .fields vs.toArray, #[]⟩
noncomputable def ent1 (P : Params) (x : Str) (t : Nat) (v : Value) : DictEntry := ⟨PyData.keyHash P x, .str x t, v⟩
noncomputable def ob_2 : Obj := ⟨.none, none, .dict #[] 0, #[]⟩
noncomputable def ob_3 (P : Params) : Obj := ⟨.type "dict", none, .dict (List.toArray [ent1 P "__name__" 165 (.str "law_mr0221_01" 321), ent1 P "__doc__" 166 (.none), ent1 P "__package__" 167 (.none), ent1 P "__loader__" 168 (.builtin "__main__.__loader__#opaque"), ent1 P "__spec__" 169 (.none), ent1 P "__annotations__" 170 (.ref 6), ent1 P "__builtins__" 171 (.ref 4), ent1 P "__file__" 173 (.str "/claim/cut.py" 172), ent1 P "__cached__" 174 (.none), ent1 P "_wall" 193 (.ref 21), ent1 P "search_reverse" 208 (.ref 28), ent1 P "get_line_col" 217 (.ref 35), ent1 P "Whitespace" 320 (.ref 97), ent1 P "_law_lead" 330 (.ref 108), ent1 P "_law_column" 340 (.ref 115), ent1 P "_law_spans" 355 (.ref 122), ent1 P "_law_hit" 366 (.ref 129), ent1 P "_law_prog" 378 (.ref 136), ent1 P "_law_run" 384 (.ref 141), ent1 P "_law_told_apart" 390 (.ref 146), ent1 P "law" 396 (.ref 151)]) 21, #[]⟩
noncomputable def ob_27 : Obj := codeObj [Value.str (Str.ofString "search_reverse") 196, Value.str (Str.ofString "search_reverse") 197, Value.str (Str.ofString "/claim/cut.py") 198, Value.int 5 0, Value.int 3 0, Value.int 0 0, Value.int 0 0, Value.int 3 0, Value.ref 22, Value.bool true, Value.int 181 0, Value.ref 23, Value.none, Value.ref 24, Value.ref 25, Value.ref 26, Value.int 206 0, Value.int 5 0, Value.str (Str.ofString "/claim/cut.py") 207]
noncomputable def ob_28 : Obj := fnObj "search_reverse" "search_reverse" (topSt 2) 27 "cpy313.idlelib.searchengine" 194
noncomputable def ob_34 : Obj := codeObj [Value.str (Str.ofString "get_line_col") 209, Value.str (Str.ofString "get_line_col") 210, Value.str (Str.ofString "/claim/cut.py") 211, Value.int 20 0, Value.int 1 0, Value.int 0 0, Value.int 0 0, Value.int 3 0, Value.ref 29, Value.bool true, Value.int 181 0, Value.ref 30, Value.none, Value.ref 31, Value.ref 32, Value.ref 33, Value.int 215 0, Value.int 20 0, Value.str (Str.ofString "/claim/cut.py") 216]
noncomputable def ob_35 : Obj := fnObj "get_line_col" "get_line_col" (topSt 3) 34 "cpy313.idlelib.searchengine" 194
noncomputable def ob_51 : Obj := codeObj [Value.str (Str.ofString "__init__") 237, Value.str (Str.ofString "Whitespace.__init__") 238, Value.str (Str.ofString "/claim/cut.py") 239, Value.int 27 0, Value.int 2 0, Value.int 0 0, Value.int 0 0, Value.int 3 0, Value.ref 46, Value.bool true, Value.int 181 0, Value.ref 47, Value.none, Value.ref 48, Value.ref 49, Value.ref 50, Value.int 249 0, Value.int 27 0, Value.str (Str.ofString "/claim/cut.py") 250]
noncomputable def ob_52 : Obj := fnObj "__init__" "Whitespace.__init__" (clsSt 1) 51 "cpy313.tabnanny" 218
noncomputable def ob_58 : Obj := codeObj [Value.str (Str.ofString "longest_run_of_spaces") 252, Value.str (Str.ofString "Whitespace.longest_run_of_spaces") 253, Value.str (Str.ofString "/claim/cut.py") 254, Value.int 50 0, Value.int 1 0, Value.int 0 0, Value.int 0 0, Value.int 3 0, Value.ref 53, Value.bool true, Value.int 181 0, Value.ref 54, Value.none, Value.ref 55, Value.ref 56, Value.ref 57, Value.int 258 0, Value.int 50 0, Value.str (Str.ofString "/claim/cut.py") 259]
noncomputable def ob_59 : Obj := fnObj "longest_run_of_spaces" "Whitespace.longest_run_of_spaces" (clsSt 2) 58 "cpy313.tabnanny" 218
noncomputable def ob_65 : Obj := codeObj [Value.str (Str.ofString "indent_level") 261, Value.str (Str.ofString "Whitespace.indent_level") 262, Value.str (Str.ofString "/claim/cut.py") 263, Value.int 54 0, Value.int 2 0, Value.int 0 0, Value.int 0 0, Value.int 3 0, Value.ref 60, Value.bool true, Value.int 181 0, Value.ref 61, Value.none, Value.ref 62, Value.ref 63, Value.ref 64, Value.int 270 0, Value.int 54 0, Value.str (Str.ofString "/claim/cut.py") 271]
noncomputable def ob_66 : Obj := fnObj "indent_level" "Whitespace.indent_level" (clsSt 3) 65 "cpy313.tabnanny" 218
noncomputable def ob_79 : Obj := codeObj [Value.str (Str.ofString "not_equal_witness") 281, Value.str (Str.ofString "Whitespace.not_equal_witness") 282, Value.str (Str.ofString "/claim/cut.py") 283, Value.int 64 0, Value.int 2 0, Value.int 0 0, Value.int 0 0, Value.int 3 0, Value.ref 74, Value.bool true, Value.int 181 0, Value.ref 75, Value.none, Value.ref 76, Value.ref 77, Value.ref 78, Value.int 289 0, Value.int 64 0, Value.str (Str.ofString "/claim/cut.py") 290]
noncomputable def ob_80 : Obj := fnObj "not_equal_witness" "Whitespace.not_equal_witness" (clsSt 5) 79 "cpy313.tabnanny" 218
noncomputable def ob_96 (P : Params) : Obj := ⟨.type "dict", none, .dict (List.toArray [ent1 P "__module__" 227 (.str "cpy313.tabnanny" 218), ent1 P "__firstlineno__" 231 (.int 24 230), ent1 P "S" 235 (.str " " 233), ent1 P "T" 236 (.str "\t" 234), ent1 P "__init__" 251 (.ref 52), ent1 P "longest_run_of_spaces" 260 (.ref 59), ent1 P "indent_level" 272 (.ref 66), ent1 P "equal" 280 (.ref 73), ent1 P "not_equal_witness" 291 (.ref 80), ent1 P "less" 299 (.ref 87), ent1 P "not_less_witness" 307 (.ref 94), ent1 P "__static_attributes__" 313 (.ref 95), ent1 P "__dict__" 315 (.ref 98), ent1 P "__weakref__" 317 (.ref 99), ent1 P "__doc__" 318 (.none)]) 4, #[]⟩
noncomputable def ob_97 : Obj := ⟨.type "type", none, .cls { name := "Whitespace", bases := [.type "object"], mro := [.ref 97, .type "object"], ns := 96, qualname := "Whitespace" }, #[none, none, some (.str "Whitespace" 220), some (.str "Whitespace" 228), some (.builtin "object.__new__"), some (.bool true)]⟩
noncomputable def ob_98 : Obj := ⟨.type "getset_descriptor", none, .fields #[.str "__dict__" 314, .ref 97, .builtin "function.__dict__", .builtin "function.__dict__#set"], #[]⟩
noncomputable def ob_99 : Obj := ⟨.type "getset_descriptor", none, .fields #[.str "__weakref__" 316, .ref 97, .builtin "ExceptionGroup.__weakref__", .none], #[]⟩
noncomputable def ob_107 : Obj := codeObj [Value.str (Str.ofString "_law_lead") 323, Value.str (Str.ofString "_law_lead") 324, Value.str (Str.ofString "/claim/cut.py") 325, Value.int 78 0, Value.int 1 0, Value.int 0 0, Value.int 0 0, Value.int 3 0, Value.ref 102, Value.bool true, Value.int 181 0, Value.ref 103, Value.none, Value.ref 104, Value.ref 105, Value.ref 106, Value.int 328 0, Value.int 78 0, Value.str (Str.ofString "/claim/cut.py") 329]
noncomputable def ob_108 : Obj := fnObj "_law_lead" "_law_lead" (topSt 7) 107 "law_mr0221_01" 321
noncomputable def ob_114 : Obj := codeObj [Value.str (Str.ofString "_law_column") 331, Value.str (Str.ofString "_law_column") 332, Value.str (Str.ofString "/claim/cut.py") 333, Value.int 81 0, Value.int 2 0, Value.int 0 0, Value.int 0 0, Value.int 3 0, Value.ref 109, Value.bool true, Value.int 181 0, Value.ref 110, Value.none, Value.ref 111, Value.ref 112, Value.ref 113, Value.int 338 0, Value.int 81 0, Value.str (Str.ofString "/claim/cut.py") 339]
noncomputable def ob_115 : Obj := fnObj "_law_column" "_law_column" (topSt 8) 114 "law_mr0221_01" 321
noncomputable def ob_121 : Obj := codeObj [Value.str (Str.ofString "_law_spans") 341, Value.str (Str.ofString "_law_spans") 342, Value.str (Str.ofString "/claim/cut.py") 343, Value.int 86 0, Value.int 3 0, Value.int 0 0, Value.int 0 0, Value.int 3 0, Value.ref 116, Value.bool true, Value.int 181 0, Value.ref 117, Value.none, Value.ref 118, Value.ref 119, Value.ref 120, Value.int 353 0, Value.int 86 0, Value.str (Str.ofString "/claim/cut.py") 354]
noncomputable def ob_122 : Obj := fnObj "_law_spans" "_law_spans" (topSt 9) 121 "law_mr0221_01" 321
noncomputable def ob_128 : Obj := codeObj [Value.str (Str.ofString "_law_hit") 356, Value.str (Str.ofString "_law_hit") 357, Value.str (Str.ofString "/claim/cut.py") 358, Value.int 101 0, Value.int 2 0, Value.int 0 0, Value.int 0 0, Value.int 3 0, Value.ref 123, Value.bool true, Value.int 181 0, Value.ref 124, Value.none, Value.ref 125, Value.ref 126, Value.ref 127, Value.int 364 0, Value.int 101 0, Value.str (Str.ofString "/claim/cut.py") 365]
noncomputable def ob_129 : Obj := fnObj "_law_hit" "_law_hit" (topSt 10) 128 "law_mr0221_01" 321
noncomputable def ob_135 : Obj := codeObj [Value.str (Str.ofString "_law_prog") 367, Value.str (Str.ofString "_law_prog") 368, Value.str (Str.ofString "/claim/cut.py") 369, Value.int 105 0, Value.int 2 0, Value.int 0 0, Value.int 0 0, Value.int 3 0, Value.ref 130, Value.bool true, Value.int 181 0, Value.ref 131, Value.none, Value.ref 132, Value.ref 133, Value.ref 134, Value.int 376 0, Value.int 105 0, Value.str (Str.ofString "/claim/cut.py") 377]
noncomputable def ob_136 : Obj := fnObj "_law_prog" "_law_prog" (topSt 11) 135 "law_mr0221_01" 321
noncomputable def ob_140 : Obj := codeObj [Value.str (Str.ofString "_law_run") 379, Value.str (Str.ofString "_law_run") 380, Value.str (Str.ofString "/claim/cut.py") 381, Value.int 115 0, Value.int 5 0, Value.int 0 0, Value.int 0 0, Value.int 3 0, Value.ref 137, Value.bool true, Value.int 181 0, Value.ref 138, Value.none, Value.none, Value.none, Value.ref 139, Value.int 382 0, Value.int 115 0, Value.str (Str.ofString "/claim/cut.py") 383]
noncomputable def ob_141 : Obj := fnObj "_law_run" "_law_run" (topSt 12) 140 "law_mr0221_01" 321
noncomputable def ob_145 : Obj := codeObj [Value.str (Str.ofString "_law_told_apart") 385, Value.str (Str.ofString "_law_told_apart") 386, Value.str (Str.ofString "/claim/cut.py") 387, Value.int 146 0, Value.int 2 0, Value.int 0 0, Value.int 0 0, Value.int 3 0, Value.ref 142, Value.bool true, Value.int 181 0, Value.ref 143, Value.none, Value.none, Value.none, Value.ref 144, Value.int 388 0, Value.int 146 0, Value.str (Str.ofString "/claim/cut.py") 389]
noncomputable def ob_146 : Obj := fnObj "_law_told_apart" "_law_told_apart" (topSt 13) 145 "law_mr0221_01" 321
noncomputable def ob_150 : Obj := codeObj [Value.str (Str.ofString "law") 391, Value.str (Str.ofString "law") 392, Value.str (Str.ofString "/claim/cut.py") 393, Value.int 150 0, Value.int 1 0, Value.int 0 0, Value.int 0 0, Value.int 3 0, Value.ref 147, Value.bool true, Value.int 181 0, Value.ref 148, Value.none, Value.none, Value.none, Value.ref 149, Value.int 394 0, Value.int 150 0, Value.str (Str.ofString "/claim/cut.py") 395]
noncomputable def ob_151 : Obj := fnObj "law" "law" (topSt 14) 150 "law_mr0221_01" 321
noncomputable def K1 (P : Params) : Frag := [(nat_lit 2, ob_2), (nat_lit 3, ob_3 P), (nat_lit 27, ob_27), (nat_lit 28, ob_28), (nat_lit 34, ob_34), (nat_lit 35, ob_35), (nat_lit 51, ob_51), (nat_lit 52, ob_52), (nat_lit 58, ob_58), (nat_lit 59, ob_59), (nat_lit 65, ob_65), (nat_lit 66, ob_66), (nat_lit 79, ob_79), (nat_lit 80, ob_80), (nat_lit 96, ob_96 P), (nat_lit 97, ob_97), (nat_lit 98, ob_98), (nat_lit 99, ob_99), (nat_lit 107, ob_107), (nat_lit 108, ob_108), (nat_lit 114, ob_114), (nat_lit 115, ob_115), (nat_lit 121, ob_121), (nat_lit 122, ob_122), (nat_lit 128, ob_128), (nat_lit 129, ob_129), (nat_lit 135, ob_135), (nat_lit 136, ob_136), (nat_lit 140, ob_140), (nat_lit 141, ob_141), (nat_lit 145, ob_145), (nat_lit 146, ob_146), (nat_lit 150, ob_150), (nat_lit 151, ob_151)]
noncomputable def as1 : List Addr := [nat_lit 2, nat_lit 3, nat_lit 27, nat_lit 28, nat_lit 34, nat_lit 35, nat_lit 51, nat_lit 52, nat_lit 58, nat_lit 59, nat_lit 65, nat_lit 66, nat_lit 79, nat_lit 80, nat_lit 96, nat_lit 97, nat_lit 98, nat_lit 99, nat_lit 107, nat_lit 108, nat_lit 114, nat_lit 115, nat_lit 121, nat_lit 122, nat_lit 128, nat_lit 129, nat_lit 135, nat_lit 136, nat_lit 140, nat_lit 141, nat_lit 145, nat_lit 146, nat_lit 150, nat_lit 151]
end Mine

set_option tactic.hygienic false
set_option maxRecDepth 10000
namespace Mine
open PySem PySem.W PyProof.Rows

section
variable {C : Cx} {P : Params} {mg : Str → Option Value} (L : LawG C (K1 P) mg) {n : Nat}
include L

noncomputable abbrev vWs (l : List Nat) : VP := vObj 97 (wsAttrs l (wsOf l))

set_option maxHeartbeats 4000000 in
theorem init_def : DefOk C 52 (fnAt (K1 P) 52) (bodyOf (fnAt (K1 P) 52)) ["self", "ws"] ⟨(fnAt (K1 P) 52).scope, ["self", "ws", "S", "T", "count", "b", "n", "nt", "ch"], []⟩ :=
  L.def_ (by kernel_rfl) (by kernel_rfl) (bind_2 fun a b => by kernel_rfl)

theorem g_len : GlobIs C "len" (.builtin "len") := L.bi (by kernel_rfl) (by decide +kernel) (by decide)
theorem g_tuple : GlobIs C "tuple" (.type "tuple") := L.bi (by kernel_rfl) (by decide +kernel) (by decide)
theorem g_ws : GlobIs C "Whitespace" (.ref 97) := L.fn (by kernel_rfl)

noncomputable def initSlots (x : Addr) (l : List Nat) (w : WsS) (ch : Slot) : List Slot :=
  [.val (vIs (.ref x)), .val (vS l), .val (vS [32]), .val (vS [9]), .own (w.count.map vInt), .val (vInt w.b), .val (vInt w.n), .val (vInt w.nt), ch]

set_option maxHeartbeats 8000000 in
theorem init_ex (x : Addr) (l : List Nat) (hl : l.length ≤ 1000) : ExI C ⟨(fnAt (K1 P) 52).scope, ["self", "ws", "S", "T", "count", "b", "n", "nt", "ch"], []⟩ n 97 x
    [.val (vIs (.ref x)), .val (vS l), .un, .un, .un, .un, .un, .un, .un] [] (bodyOf (fnAt (K1 P) 52)) (wsAttrs l (wsOf l)) := by
  have hset : findIn (K1 P) (.ref 97) "__setattr__" = some (some (.builtin "object.__setattr__")) := by kernel_rfl
  have hov : plainOver (K1 P) 97 = true := by kernel_rfl
  have hhd : hasDictIn (K1 P) 97 = true := by kernel_rfl
  rw [show fnAt (K1 P) 52 = FuncData.mk _ _ _ _ _ _ _ _ _ _ _ _ _ _ _ from rfl]
  dsimp only [bodyOf]
  have hnd : (["self", "ws", "S", "T", "count", "b", "n", "nt", "ch"] : List Str).Nodup := by decide
  refine ExI.set 0 rfl rfl (Ev.name 1 rfl rfl) L.X hset hov (by kernel_rfl) hhd rfl (by decide) ?_
  refine ExI.cons (Ex1.assignSwap 2 3 rfl rfl hnd rfl rfl (Ev.tuple (.cons (Ev.clsTxt (l := [32]) (Ev.glob (g_ws L) rfl) L.X (by kernel_rfl) (by kernel_rfl)) (.cons (Ev.clsTxt (l := [9]) (Ev.glob (g_ws L) rfl) L.X (by kernel_rfl) (by kernel_rfl)) .nil))) (hw := fun env he => by obtain ⟨sc, _, _, _, _, _, _⟩ := env; dsimp only at he; subst he; kernel_rfl)) ?_
  refine ExI.cons (Ex1.assignOwn 4 rfl hnd rfl (EvL.list .nil)) ?_
  refine ExI.cons (Ex1.assign3 5 6 7 rfl rfl rfl hnd rfl rfl rfl Ev.int) ?_
  refine ExI.for_ (attr := none) 0 rfl rfl L.X (by kernel_rfl) hhd (by kernel_rfl) (by kernel_rfl) rfl handed_s iter_text
    (Turns.run (fun c => vS [c]) (fun st : WsS × Slot => initSlots x l st.1 st.2) (fun st c => initSlots x l st.1 (.val (vS [c]))) (fun st r => 0 ≤ st.1.b ∧ st.1.b + r.length ≤ 1000 ∧ st.1.count.length ≤ 1001)
      (fun st r => .next (initSlots x l (wsScan r st.1) (wsCh r st.2))) (fun st c => Asg.name 8 rfl hnd rfl) (fun st _ => rfl) ?_ l (⟨[], 0, 0, 0⟩, .un) ⟨by decide, by simp; lia, by simp⟩) ?_
  · rintro ⟨⟨count, b, m, nt⟩, s0⟩ c r ⟨h0, h1, h2⟩
    dsimp only at h0 h1 h2
    by_cases h32 : c = 32
    · subst h32
      refine .inl ⟨(⟨count, b + 1, m + 1, nt⟩, .val (vS [32])), ?_, ⟨by dsimp only; lia, by dsimp only; simp at h1 ⊢; lia, h2⟩, by simp [wsScan, wsCh]⟩
      refine Ex.one (Ex1.iff (c := true) ((EvB.cmp (Ev.name 8 rfl rfl) (Ev.name 2 rfl rfl) CmpG.eqS).conv (by decide)) (fun _ => ?_) (fun h => nomatch h))
      exact Ex.cons (Ex1.assign 6 rfl hnd rfl (Ev.bin (Ev.name 6 rfl rfl) Ev.int BinG.add)) (Ex.one (Ex1.assign 5 rfl hnd rfl (Ev.bin (Ev.name 5 rfl rfl) Ev.int BinG.add)))
    · have n32 : decide ([c] = [32]) = false := by simpa using h32
      by_cases h9 : c = 9
      · subst h9
        refine .inl ⟨(⟨bump count b, 0, m + 1, nt + 1⟩, .val (vS [9])), ?_, ⟨by dsimp only; lia, by dsimp only; simp at h1 ⊢; lia, by have := bump_length (count := count) h0; dsimp only; simp at h1; lia⟩, by simp [wsScan, wsCh]⟩
        refine Ex.one (Ex1.iff (c := false) ((EvB.cmp (Ev.name 8 rfl rfl) (Ev.name 2 rfl rfl) CmpG.eqS).conv (by decide)) (fun h => nomatch h) (fun _ => ?_))
        refine Ex.one (Ex1.iff (c := true) ((EvB.cmp (Ev.name 8 rfl rfl) (Ev.name 3 rfl rfl) CmpG.eqS).conv (by decide)) (fun _ => ?_) (fun h => nomatch h))
        refine Ex.cons (Ex1.assign 6 rfl hnd rfl (Ev.bin (Ev.name 6 rfl rfl) Ev.int BinG.add)) (Ex.cons (Ex1.assign 7 rfl hnd rfl (Ev.bin (Ev.name 7 rfl rfl) Ev.int BinG.add)) ?_)
        have hlen : (count.map vInt).length = count.length := List.length_map ..
        have hsz : (count.map vInt).length ≤ sizeLine := by rw [hlen, sizeLine_eq]; lia
        refine Ex.cons (vals' := initSlots x l ⟨bump0 count b, b, m + 1, nt + 1⟩ (.val (vS [9]))) (Ex1.iff (EvB.cmp (Ev.name 5 rfl rfl) (Ev.borrow 4 rfl rfl (scalar_int _) (Ev.call (Ev.glob (g_len L) rfl) (KeepOk.builtin _) (.cons (Ev.name 4 rfl rfl) .nil) (FnG.lenL hsz))) CmpG.ge) (fun hc => ?_) (fun hc => ?_)) ?_
        · have hc : b ≥ count.length := by simpa using hc
          refine Ex.one ((Ex1.assignOwn 4 rfl hnd rfl (EvL.borrow 4 rfl rfl ?_ (EvL.add (Ev.name 4 rfl rfl) (EvL.ev (EvL.mul (EvL.ev (EvL.list (.cons Ev.int .nil))) (Ev.bin (Ev.bin (Ev.name 5 rfl rfl) (Ev.call (Ev.glob (g_len L) rfl) (KeepOk.builtin _) (.cons (Ev.name 4 rfl rfl) .nil) (FnG.lenL hsz)) BinG.sub) Ev.int BinG.add) ?_ ?_)) ?_))).conv ?_)
          · intro p hp
            rcases List.mem_append.mp hp with hp | hp
            · obtain ⟨k, _, rfl⟩ := List.mem_map.mp hp; exact scalar_int _
            · rw [List.eq_of_mem_replicate hp]; exact scalar_int _
          · dsimp only; rw [hlen]; simp at h1; lia
          · dsimp only; rw [hlen]; lia
          · dsimp only; rw [List.length_replicate, hlen, sizeLine_eq]; simp at h1; lia
          · rw [show bump0 count b = _ from if_pos hc, hlen]; simp [initSlots]
        · have hc : ¬ b ≥ count.length := by simpa using hc
          exact Ex.nil.conv (by rw [show bump0 count b = count from if_neg hc]; rfl)
        · have hb0 := bump0_length (count := count) h0
          have hg : (bump0 count b)[b.toNat]? = some ((bump0 count b).getD b.toNat 0) := by
            rw [List.getD_eq_getElem?_getD, List.getElem?_eq_getElem hb0.1]; rfl
          refine Ex.cons ((Ex1.setItem 4 rfl rfl (Ev.bin (Ev.ownItem (p := vInt ((bump0 count b).getD b.toNat 0)) 4 rfl rfl (Ev.name 5 rfl rfl) h0 (by simp at h1; lia) (by show (List.map vInt (bump0 count b))[b.toNat]? = _; rw [List.getElem?_map, hg]; rfl)) Ev.int BinG.add) (Ev.name 5 rfl rfl) h0 (by simp at h1; lia) (by show b < ((List.map vInt (bump0 count b)).length : Int); rw [List.length_map]; lia)).conv (o' := .next (initSlots x l ⟨bump count b, b, m + 1, nt + 1⟩ (.val (vS [9])))) ?_) ?_
          · simp [initSlots, bump, List.map_set]
          · exact Ex.one (Ex1.assign 5 rfl hnd rfl Ev.int)
      · have n9 : decide ([c] = [9]) = false := by simpa using h9
        refine .inr (.inl ⟨initSlots x l ⟨count, b, m, nt⟩ (.val (vS [c])), ?_, by simp [wsScan, wsCh, h32, h9]⟩)
        refine Ex.one (Ex1.iff (c := false) ((EvB.cmp (Ev.name 8 rfl rfl) (Ev.name 2 rfl rfl) CmpG.eqS).conv n32) (fun h => nomatch h) (fun _ => ?_))
        refine Ex.one (Ex1.iff (c := false) ((EvB.cmp (Ev.name 8 rfl rfl) (Ev.name 3 rfl rfl) CmpG.eqS).conv n9) (fun h => nomatch h) (fun _ => ?_))
        exact Ex.one Ex1.brk
  · refine ExI.set 0 rfl rfl (Ev.name 6 rfl rfl) L.X hset hov (by kernel_rfl) hhd rfl (by simp) ?_
    refine ExI.set 0 rfl rfl (Ev.name 7 rfl rfl) L.X hset hov (by kernel_rfl) hhd rfl (by simp) ?_
    refine ExI.freeze 4 rfl rfl ?_
    have hlen : ((wsOf l).count.map vInt).length = (wsOf l).count.length := List.length_map ..
    have hle : (wsOf l).count.length ≤ 1001 := wsOf_length hl
    have hsz : ((wsOf l).count.map vInt).length ≤ sizeLine := by rw [hlen, sizeLine_eq]; lia
    refine ExI.set 0 rfl rfl (p := normP (wsOf l)) (Ev.tuple (.cons (Ev.call (Ev.glob (g_tuple L) rfl) (KeepOk.type _) (.cons (Ev.name 4 rfl rfl) .nil) (FnG.tupleOf hsz)) (.cons (Ev.name 5 rfl rfl) .nil))) L.X hset hov (by kernel_rfl) hhd rfl (by simp) ?_
    refine ExI.set 0 rfl rfl (p := vBool (decide (((wsOf l).count.length : Int) ≤ 1))) ((Ev.cmp (Ev.call (Ev.glob (g_len L) rfl) (KeepOk.builtin _) (.cons (Ev.name 4 rfl rfl) .nil) (FnG.lenL hsz)) Ev.int CmpG.le).conv (by rw [hlen])) L.X hset hov (by kernel_rfl) hhd rfl (by simp) ?_
    exact ExI.nil

theorem make_ws (l : List Nat) (hl : l.length ≤ 1000) : FnG C (n + 2) (.ref 97) [vS l] (vWs l) :=
  FnG.make L.X (by kernel_rfl) (by kernel_rfl) (by kernel_rfl) (init_def L) rfl fun x => init_ex L x l hl

end
end Mine

set_option tactic.hygienic false
set_option maxRecDepth 10000
namespace Mine
open PySem PySem.W PyProof.Rows

section
variable {C : Cx} {P : Params} {mg : Str → Option Value} (L : LawG C (K1 P) mg) {n : Nat}
include L

theorem g_max : GlobIs C "max" (.builtin "max") := L.bi (by kernel_rfl) (by decide +kernel) (by decide)
theorem g_range : GlobIs C "range" (.type "range") := L.bi (by kernel_rfl) (by decide +kernel) (by decide)

theorem ws_norm {fr : Shape} {vals : List Slot} {e : Expr} {pos : Pos} {l : List Nat} {w : WsS} (h : Ev C fr n vals e (vObj 97 (wsAttrs l w))) (hb : ∀ env, attributeBase e "norm" env (eval e env) = eval e env) : Ev C fr n vals (.Attribute e "norm" pos) (normP w) :=
  Ev.attr (attr := none) h L.X (by kernel_rfl) (by kernel_rfl) (by kernel_rfl) rfl rfl handed_tup hb
theorem ws_n {fr : Shape} {vals : List Slot} {e : Expr} {pos : Pos} {l : List Nat} {w : WsS} (h : Ev C fr n vals e (vObj 97 (wsAttrs l w))) (hb : ∀ env, attributeBase e "n" env (eval e env) = eval e env) : Ev C fr n vals (.Attribute e "n" pos) (vInt w.n) :=
  Ev.attr (attr := none) h L.X (by kernel_rfl) (by kernel_rfl) (by kernel_rfl) rfl rfl handed_int hb
theorem ws_nt {fr : Shape} {vals : List Slot} {e : Expr} {pos : Pos} {l : List Nat} {w : WsS} (h : Ev C fr n vals e (vObj 97 (wsAttrs l w))) (hb : ∀ env, attributeBase e "nt" env (eval e env) = eval e env) : Ev C fr n vals (.Attribute e "nt" pos) (vInt w.nt) :=
  Ev.attr (attr := none) h L.X (by kernel_rfl) (by kernel_rfl) (by kernel_rfl) rfl rfl handed_int hb
theorem ws_simple {fr : Shape} {vals : List Slot} {e : Expr} {pos : Pos} {l : List Nat} {w : WsS} (h : Ev C fr n vals e (vObj 97 (wsAttrs l w))) (hb : ∀ env, attributeBase e "is_simple" env (eval e env) = eval e env) : Ev C fr n vals (.Attribute e "is_simple" pos) (vBool (decide ((w.count.length : Int) ≤ 1))) :=
  Ev.attr (attr := none) h L.X (by kernel_rfl) (by kernel_rfl) (by kernel_rfl) rfl rfl handed_bool hb

set_option maxHeartbeats 4000000 in
theorem run_fn (l : List Nat) (w : WsS) (hw : w.small) : FnG C (n + 1) (.ref 59) [vObj 97 (wsAttrs l w)] (vInt (runOf w)) := by
  refine FnG.top (L.def_ (xs := ["self"]) (names := ["self", "count", "trailing"]) (cells := []) (by kernel_rfl) (by kernel_rfl) (bind_1 fun a => by kernel_rfl)) rfl ?_ (.ret _)
  rw [show fnAt (K1 P) 59 = FuncData.mk _ _ _ _ _ _ _ _ _ _ _ _ _ _ _ from rfl]
  dsimp only [bodyOf, startVals, List.map, List.append, List.replicate, List.length]
  have hlen : (w.count.map vInt).length = w.count.length := List.length_map ..
  have hsz : (w.count.map vInt).length ≤ sizeLine := by have := hw.1; rw [hlen, sizeLine_eq]; lia
  refine Ex.cons (Ex1.assignTuple (ws_norm L (Ev.name 0 rfl rfl) (fun _ => rfl)) (Names.cons 1 rfl rfl (Names.cons 2 rfl rfl Names.nil)) (by decide)) ?_
  exact Ex.one (Ex1.ret ((Ev.call (Ev.glob (g_max L) rfl) (KeepOk.builtin _) (.cons (Ev.bin (Ev.call (Ev.glob (g_len L) rfl) (KeepOk.builtin _) (.cons (Ev.name 1 rfl rfl) .nil) (FnG.lenT hsz)) Ev.int BinG.sub) (.cons (Ev.name 2 rfl rfl) .nil)) FnG.max2).conv (by rw [hlen]; rfl)))

set_option maxHeartbeats 4000000 in
theorem level_fn (l : List Nat) (w : WsS) (hw : w.small) (ts : Int) (h1 : 1 ≤ ts) (h2 : ts ≤ 5000) : FnG C (n + 1) (.ref 66) [vObj 97 (wsAttrs l w), vInt ts] (vInt (levelOf w ts)) := by
  refine FnG.top (L.def_ (xs := ["self", "tabsize"]) (names := ["self", "tabsize", "count", "trailing", "il", "i"]) (cells := []) (by kernel_rfl) (by kernel_rfl) (bind_2 fun a b => by kernel_rfl)) rfl ?_ (.ret _)
  rw [show fnAt (K1 P) 66 = FuncData.mk _ _ _ _ _ _ _ _ _ _ _ _ _ _ _ from rfl]
  dsimp only [bodyOf, startVals, List.map, List.append, List.replicate, List.length]
  have hlen : (w.count.map vInt).length = w.count.length := List.length_map ..
  have hc := hw.1
  have hsz : (w.count.map vInt).length ≤ sizeLine := by rw [hlen, sizeLine_eq]; lia
  have hnd : (["self", "tabsize", "count", "trailing", "il", "i"] : List Str).Nodup := by decide
  refine Ex.cons (Ex1.assignTuple (ws_norm L (Ev.name 0 rfl rfl) (fun _ => rfl)) (Names.cons 2 rfl rfl (Names.cons 3 rfl rfl Names.nil)) hnd) ?_
  refine Ex.cons (Ex1.assign 4 rfl hnd rfl Ev.int) ?_
  refine Ex.cons (Ex1.for_ (Ev.call (Ev.glob (g_range L) rfl) (KeepOk.type _) (.cons (Ev.name 1 rfl rfl) (.cons (Ev.call (Ev.glob (g_len L) rfl) (KeepOk.builtin _) (.cons (Ev.name 2 rfl rfl) .nil) (FnG.lenT hsz)) .nil)) FnG.range2)
    (IterG.range (by decide) (by lia) (by rw [hlen]; lia) (by decide))
    (Turns.fold vInt (fun st : Int × Slot => [.val (vObj 97 (wsAttrs l w)), .val (vInt ts), .val (vTup (w.count.map vInt)), .val (vInt w.b), .val (vInt st.1), st.2]) (fun st i => [.val (vObj 97 (wsAttrs l w)), .val (vInt ts), .val (vTup (w.count.map vInt)), .val (vInt w.b), .val (vInt st.1), .val (vInt i)])
      (fun _ r => ∀ i ∈ r, ts ≤ i ∧ i < w.count.length) (fun st i => (st.1 + i / ts * w.count.getD i.toNat 0, .val (vInt i))) (fun st i => Asg.name 5 rfl hnd rfl) ?_ _ (0, .un) ?_)) ?_
  · intro st i r hi
    obtain ⟨a1, a2⟩ := hi i (.head _)
    refine ⟨Ex.one (Ex1.assign 4 rfl hnd rfl (Ev.bin (Ev.name 4 rfl rfl) (Ev.bin (Ev.bin (Ev.name 5 rfl rfl) (Ev.name 1 rfl rfl) (BinG.div (by lia) (by lia)))
      (Ev.sub (r := vInt (w.count.getD i.toNat 0)) (Ev.name 2 rfl rfl) (Ev.name 5 rfl rfl) (SubG.tup (by lia) (by lia) ?_)) (BinG.mul ?_)) BinG.add)), fun j hj => hi j (.tail _ hj)⟩
    · rw [List.getElem?_map, List.getElem?_eq_getElem (by lia), List.getD_eq_getElem?_getD, List.getElem?_eq_getElem (by lia)]; rfl
    · have q : 0 ≤ i / ts := Int.ediv_nonneg (by lia) (by lia)
      have q2 : i / ts ≤ i := Int.ediv_le_self _ (by lia)
      lia
  · intro i hi
    have := mem_rangeL hi
    rw [hlen] at this; exact this
  · refine Ex.one (Ex1.ret ((Ev.bin (Ev.name 3 rfl rfl) (Ev.bin (Ev.name 1 rfl rfl) (Ev.bin (Ev.name 4 rfl rfl) (ws_nt L (Ev.name 0 rfl rfl) (fun _ => rfl)) BinG.add) (BinG.mul (by lia))) BinG.add).conv ?_))
    congr 1
    unfold levelOf levelSum
    have key : ∀ (r : List Int) (st : Int × Slot), (r.foldl (fun (st : Int × Slot) i => (st.1 + i / ts * w.count.getD i.toNat 0, Slot.val (vInt i))) st).1 = r.foldl (fun il i => il + i / ts * w.count.getD i.toNat 0) st.1 := by
      intro r
      induction r with
      | nil => intro st; rfl
      | cons i r ih => intro st; exact ih _
    rw [key, hlen]

end
end Mine

set_option tactic.hygienic false
set_option maxRecDepth 10000
namespace Mine
open PySem PySem.W PyProof.Rows

section
variable {C : Cx} {P : Params} {mg : Str → Option Value} (L : LawG C (K1 P) mg) {n : Nat}
include L

theorem g_map : GlobIs C "map" (.type "map") := L.bi (by kernel_rfl) (by decide +kernel) (by decide)
theorem g_int : GlobIs C "int" (.type "int") := L.bi (by kernel_rfl) (by decide +kernel) (by decide)

omit L in
theorem split_dot {a b : Int} (ha : 0 ≤ a) (hb : 0 ≤ b) : splitOn 46 (dig a ++ [46] ++ dig b) = [dig a, dig b] := by
  have h1 : 46 ∉ dig a := fun h => by have := dig_digits ha 46 h; lia
  have h2 : 46 ∉ dig b := fun h => by have := dig_digits hb 46 h; lia
  rw [List.append_assoc, List.singleton_append, splitOn_append _ h1, splitOn_free h2]

set_option maxHeartbeats 4000000 in
theorem glc_fn (a b : Int) (ha : 0 ≤ a) (hb : 0 ≤ b) (ha' : a < 10 ^ 10) (hb' : b < 10 ^ 10) : FnG C (n + 2) (.ref 35) [vS (dig a ++ [46] ++ dig b)] (vTup [vInt a, vInt b]) := by
  refine FnG.top (n := n + 1) (L.def_ (xs := ["index"]) (names := ["index", "line", "col"]) (cells := []) (by kernel_rfl) (by kernel_rfl) (bind_1 fun a => by kernel_rfl)) rfl (o := .ret (vTup [vInt a, vInt b])) ?_ (.ret _)
  rw [show fnAt (K1 P) 35 = FuncData.mk _ _ _ _ _ _ _ _ _ _ _ _ _ _ _ from rfl]
  dsimp only [bodyOf, startVals, List.map, List.append, List.replicate, List.length]
  have hnd : (["index", "line", "col"] : List Str).Nodup := by decide
  have hlen : (dig a ++ [46] ++ dig b).length < sizeLine := by
    have := dig_length ha ha'; have := dig_length hb hb'
    simp only [List.length_append, List.length_cons, List.length_nil, sizeLine_eq]; lia
  have hsp : FnG C (n + 1) (.builtin "str.split") [vS (dig a ++ [46] ++ dig b), vS [46]] (vLst [vS (dig a), vS (dig b)]) := by
    have := FnG.split (C := C) (n := n + 1) (c := 46) hlen
    rwa [split_dot ha hb] at this
  refine Ex.cons (Ex1.unpackMap (Ev.glob (g_map L) rfl) (Ev.glob (g_int L) rfl) (Ev.methStr (Ev.name 0 rfl rfl) (.cons (Ev.s [46] rfl) .nil) hsp PySem.F.slot_str_split PySem.F.type_str_split)
    (.cons (Ev.glob (g_int L) rfl) (.cons (Ev.methStr (Ev.name 0 rfl rfl) (.cons (Ev.s [46] rfl) .nil) hsp PySem.F.slot_str_split PySem.F.type_str_split) .nil)) (FnG.int ha ha') (FnG.int hb hb') (by lia) (Names.cons 1 rfl rfl (Names.cons 2 rfl rfl Names.nil)) hnd) ?_
  exact Ex.one (Ex1.ret (Ev.tuple (.cons (Ev.name 1 rfl rfl) (.cons (Ev.name 2 rfl rfl) .nil))))

noncomputable abbrev revSlots (q : VP) (t : List Nat) (col : Int) (m f i j : Slot) : List Slot := [.val (vFun [("search", q)]), .val (vS t), .val (vInt col), m, f, i, j]

set_option maxHeartbeats 8000000 in
theorem rev_fn {q : VP} {hit : Int → Int → VP} {t : List Nat} {nx : Int → Option (Int × Int)} (hq : q.IsFn) (H : HitOk C n hit) (hg : Goes nx) (h0 : CallG C n q [vS t] (resP hit (nx 0))) (hs : ∀ j, CallG C n q [vS t, vInt j] (resP hit (nx j))) (col : Int) :
    FnG C (n + 1) (.ref 28) [vFun [("search", q)], vS t, vInt col] (resP hit (srev nx col)) := by
  refine FnG.top (L.def_ (xs := ["prog", "chars", "col"]) (names := ["prog", "chars", "col", "m", "found", "i", "j"]) (cells := []) (by kernel_rfl) (by kernel_rfl) (bind_3 fun a b c => by kernel_rfl)) rfl (o := .ret (resP hit (srev nx col))) ?_ (.ret _)
  rw [show fnAt (K1 P) 28 = FuncData.mk _ _ _ _ _ _ _ _ _ _ _ _ _ _ _ from rfl]
  dsimp only [bodyOf, startVals, List.map, List.append, List.replicate, List.length]
  have hnd : (["prog", "chars", "col", "m", "found", "i", "j"] : List Str).Nodup := by decide
  refine Ex.cons (Ex1.assign 3 rfl hnd rfl (Ev.callAttr (Ev.name 0 rfl rfl) rfl hq (.cons (Ev.name 1 rfl rfl) .nil) fnSearch h0)) ?_
  cases e0 : nx 0 with
  | none =>
    have e : srev nx col = none := by unfold srev; rw [e0]
    rw [e]
    exact Ex.stop (Ex1.iff (c := true) (EvB.not (EvB.value (Ev.name 3 rfl rfl) TruG.none_)) (fun _ => Ex.one (Ex1.ret Ev.none)) (fun h => nomatch h)) (fun _ => Out.noConfusion)
  | some m =>
    have e : srev nx col = srevGo nx col (2 * col + 5).toNat none m := by unfold srev; rw [e0]
    rw [e]
    refine Ex.cons (Ex1.iff (c := false) (EvB.not (EvB.value (Ev.name 3 rfl rfl) (H.tru m.1 m.2))) (fun h => nomatch h) (fun _ => Ex.nil)) ?_
    refine Ex.cons (Ex1.assign 4 rfl hnd rfl Ev.none) ?_
    refine Ex.cons (Ex1.assignTuple (H.span (i := m.1) (j := m.2) (Ev.name 3 rfl rfl) (fun _ => rfl) rfl) (Names.cons 5 rfl rfl (Names.cons 6 rfl rfl Names.nil)) hnd) ?_
    refine Ex.while_run (fun st : Option (Int × Int) × (Int × Int) => revSlots q t col (.val (hit st.2.1 st.2.2)) (.val (resP hit st.1)) (.val (vInt st.2.1)) (.val (vInt st.2.2)))
      (fun st k => srevGo nx col k st.1 st.2 = srevGo nx col (2 * col + 5).toNat none m ∧ 2 * (col + 1 - st.2.2) + (if st.2.1 = st.2.2 then 0 else 1) < k)
      (fun v => v[4]? = some (.val (resP hit (srevGo nx col (2 * col + 5).toNat none m)))) (2 * col + 5).toNat (none, m) ⟨rfl, ?_⟩ (fun v hv => Ex.one (Ex1.ret (Ev.name 4 rfl hv))) ?_
    · have := (hg 0 m.1 m.2 e0).1
      dsimp only
      split <;> lia
    · rintro ⟨f, i, j⟩ k ⟨hR, hk⟩
      dsimp only at hR hk
      by_cases hT : i < col ∧ j ≤ col
      · obtain ⟨k, rfl⟩ : ∃ k', k = k' + 1 := ⟨k - 1, by split at hk <;> lia⟩
        have hR' : (match nx (if i = j then j + 1 else j) with | none => some (i, j) | some m' => srevGo nx col k (some (i, j)) m') = srevGo nx col (2 * col + 5).toNat none m := by rw [← hR, srevGo]; exact (if_pos hT).symm
        have htest : (decide (i < col) && (decide (j ≤ col) && true)) = true := by rw [decide_eq_true hT.1, decide_eq_true hT.2]; rfl
        have hsj := hs (if i = j then j + 1 else j)
        have hgj := hg (if i = j then j + 1 else j)
        have hJ : j ≤ (if i = j then j + 1 else j) ∧ (i = j → (if i = j then j + 1 else j) = j + 1) := by
          by_cases z : i = j
          · rw [if_pos z]; exact ⟨Int.le_add_of_nonneg_right (by decide), fun _ => rfl⟩
          · rw [if_neg z]; exact ⟨Int.le_refl _, fun q => absurd q z⟩
        have hij1 : ∀ {fr : Shape} {vals : List Slot} {b : List Stmt}, Ex C fr n vals b (.next (vals.set 6 (.val (vInt (j + 1))))) → decide (i = j) = true → Ex C fr n vals b (.next (vals.set 6 (.val (vInt (if i = j then j + 1 else j))))) := fun h1 hc => by
          rw [if_pos (of_decide_eq_true hc)]; exact h1
        have hij2 : ∀ {fr : Shape} {vals : List Slot}, vals.set 6 (.val (vInt j)) = vals → decide (i = j) = false → Ex C fr n vals [] (.next (vals.set 6 (.val (vInt (if i = j then j + 1 else j))))) := fun h2 hc => by
          rw [if_neg (of_decide_eq_false hc), h2]; exact Ex.nil
        cases hn : nx (if i = j then j + 1 else j) with
        | none =>
          rw [hn] at hR' hsj
          refine .inr (.inr ⟨_, (EvB.bool (EvAll.and_cons (EvB.cmp (Ev.name 5 rfl rfl) (Ev.name 2 rfl rfl) CmpG.lt) fun _ => EvAll.and_cons (EvB.cmp (Ev.name 6 rfl rfl) (Ev.name 2 rfl rfl) CmpG.le) fun _ => EvAll.and_nil)).conv htest,
            Ex.cons (Ex1.assign 4 rfl hnd rfl (Ev.name 3 rfl rfl)) (Ex.cons (Ex1.iff (EvB.cmp (Ev.name 5 rfl rfl) (Ev.name 6 rfl rfl) CmpG.eqI) (hij1 (Ex.one (Ex1.assign 6 rfl hnd rfl (Ev.bin (Ev.name 6 rfl rfl) Ev.int BinG.add)))) (hij2 rfl))
              (Ex.cons (Ex1.assign (p := vNone) 3 rfl hnd rfl (Ev.callAttr (Ev.name 0 rfl rfl) rfl hq (.cons (Ev.name 1 rfl rfl) (.cons (Ev.name 6 rfl rfl) .nil)) fnSearch hsj))
                (Ex.stop (Ex1.iff (c := true) (EvB.not (EvB.value (Ev.name 3 rfl rfl) TruG.none_)) (fun _ => Ex.one Ex1.brk) (fun h => nomatch h)) (fun _ => Out.noConfusion)))), ?_⟩)
          rw [← hR']; rfl
        | some m' =>
          rw [hn] at hR' hsj
          refine .inr (.inl ⟨(some (i, j), m'), k, Nat.lt_succ_self k, (EvB.bool (EvAll.and_cons (EvB.cmp (Ev.name 5 rfl rfl) (Ev.name 2 rfl rfl) CmpG.lt) fun _ => EvAll.and_cons (EvB.cmp (Ev.name 6 rfl rfl) (Ev.name 2 rfl rfl) CmpG.le) fun _ => EvAll.and_nil)).conv htest,
            Ex.cons (Ex1.assign 4 rfl hnd rfl (Ev.name 3 rfl rfl)) (Ex.cons (Ex1.iff (EvB.cmp (Ev.name 5 rfl rfl) (Ev.name 6 rfl rfl) CmpG.eqI) (hij1 (Ex.one (Ex1.assign 6 rfl hnd rfl (Ev.bin (Ev.name 6 rfl rfl) Ev.int BinG.add)))) (hij2 rfl))
              (Ex.cons (Ex1.assign (p := hit m'.1 m'.2) 3 rfl hnd rfl (Ev.callAttr (Ev.name 0 rfl rfl) rfl hq (.cons (Ev.name 1 rfl rfl) (.cons (Ev.name 6 rfl rfl) .nil)) fnSearch hsj))
                (Ex.cons (Ex1.iff (c := false) (EvB.not (EvB.value (Ev.name 3 rfl rfl) (H.tru m'.1 m'.2))) (fun h => nomatch h) (fun _ => Ex.nil))
                  (Ex.one (Ex1.assignTuple (H.span (i := m'.1) (j := m'.2) (Ev.name 3 rfl rfl) (fun _ => rfl) rfl) (Names.cons 5 rfl rfl (Names.cons 6 rfl rfl Names.nil)) hnd))))), hR', ?_⟩)
          obtain ⟨a1, a2⟩ := hgj m'.1 m'.2 hn
          dsimp only
          generalize (if i = j then j + 1 else j) = J at hJ a1 a2
          split at hk <;> split <;> lia
      · refine .inl ⟨(EvB.bool (EvAll.and_cons (EvB.cmp (Ev.name 5 rfl rfl) (Ev.name 2 rfl rfl) CmpG.lt) fun _ => EvAll.and_cons (EvB.cmp (Ev.name 6 rfl rfl) (Ev.name 2 rfl rfl) CmpG.le) fun _ => EvAll.and_nil)).conv ?_, ?_⟩
        · simp only [Bool.and_true, ← Bool.decide_and]; exact decide_eq_false hT
        · have : srevGo nx col k f (i, j) = f := by
            cases k with
            | zero => rfl
            | succ k => rw [srevGo]; exact if_neg hT
          show some (Slot.val (resP hit f)) = _
          rw [← hR, this]

end
end Mine

set_option tactic.hygienic false
set_option maxRecDepth 10000
namespace Mine
open PySem PySem.W PyProof.Rows

section
variable {C : Cx} {P : Params} {mg : Str → Option Value} (L : LawG C (K1 P) mg) {n : Nat}
include L

noncomputable abbrev hit2 (P : Params) (i j : Int) : VP := hitVP (K1 P) 129 [("first", vInt i), ("behind", vInt j)]

set_option maxHeartbeats 4000000 in
theorem hit_fn (T : MakerOk C mg (hitTab (K1 P) 129 128 124)) (i j : Int) : FnG C (n + 1) (.ref 129) [vInt i, vInt j] (hit2 P i j) := by
  have D := L.def_ (a := 129) (xs := ["first", "behind"]) (names := ["first", "behind", "hit"]) (cells := ["first", "behind"]) (by kernel_rfl) (by kernel_rfl) (bind_2 fun a b => by kernel_rfl)
  refine FnG.hit (x := "hit") (attr := "span") 2 D rfl T (by kernel_rfl) rfl ⟨.head _, ?_⟩ ⟨.tail _ (.head _), ?_⟩ rfl rfl rfl rfl ?_ fnSpan
  · intro x hx _ _
    rcases List.mem_cons.mp hx with rfl | hx
    · rfl
    · cases List.mem_singleton.mp hx; rfl
  · intro x hx _ _
    rcases List.mem_cons.mp hx with rfl | hx
    · rfl
    · cases List.mem_singleton.mp hx; rfl
  · intro q b hb
    rcases List.mem_cons.mp hb with rfl | hb
    · exact ⟨⟨0, rfl, rfl⟩, by kernel_rfl, by simp⟩
    · cases List.mem_singleton.mp hb
      exact ⟨⟨1, rfl, rfl⟩, by kernel_rfl, by simp⟩

set_option maxHeartbeats 4000000 in
theorem hit_ok : HitOk C (n + 1) (hit2 P) := ⟨fun i j => ⟨_, rfl, isFn_clo, by
  refine CallG.expr L.lim (.of (by kernel_rfl)) (fun fd h h' h'' => ?_) ?_
  · obtain ⟨_, _, pr, _, _, _, _, _, _, _, _, _, _, _, _⟩ := fd
    dsimp only at h h' h''
    subst h h' h''
    kernel_rfl
  · exact Ev.tuple (.cons (Ev.name 0 rfl rfl) (.cons (Ev.name 1 rfl rfl) .nil))⟩⟩

noncomputable abbrev prog2 (P : Params) (t : List Nat) (sp : List (Int × Int)) : VP := progVP (K1 P) 136 [("text", vS t), ("spans", vLst (sp.map fun s => vTup [vInt s.1, vInt s.2]))]

set_option maxHeartbeats 4000000 in
theorem prog_fn (T : MakerOk C mg (progTab (K1 P) 136 135 131)) (t : List Nat) (sp : List (Int × Int)) : FnG C (n + 1) (.ref 136) [vS t, vLst (sp.map fun s => vTup [vInt s.1, vInt s.2])] (prog2 P t sp) := by
  have D := L.def_ (a := 136) (xs := ["text", "spans"]) (names := ["text", "spans", "search", "prog"]) (cells := ["text", "spans"]) (by kernel_rfl) (by kernel_rfl) (bind_2 fun a b => by kernel_rfl)
  refine FnG.prog (sn := "search") (x := "prog") (attr := "search") 3 2 D rfl T (by kernel_rfl) rfl ?_ ⟨.tail _ (.head _), ?_⟩ ⟨.head _, ?_⟩ rfl rfl rfl rfl (by decide) rfl rfl (fun _ => rfl) rfl ?_ ?_ ?_ fnSearch
  · intro env h1 h2
    obtain ⟨sc, _, _, _, qu, _, _, _, _⟩ := env
    dsimp only at h1 h2
    subst h1 h2
    kernel_rfl
  · have hne : ((lamAt (K1 P) 136 1).2.2.2.line == (defAt (K1 P) 136 0).2.2.2.line) = false := by kernel_rfl
    intro x hx h1 _
    rcases List.mem_cons.mp hx with rfl | hx
    · rw [show (lamAt (K1 P) 136 1).2.2.2.line = _ from h1, beq_self_eq_true] at hne; cases hne
    · cases List.mem_singleton.mp hx; rfl
  · have hne : ((defAt (K1 P) 136 0).2.2.2.line == (lamAt (K1 P) 136 1).2.2.2.line) = false := by kernel_rfl
    intro x hx h1 _
    rcases List.mem_cons.mp hx with rfl | hx
    · rfl
    · cases List.mem_singleton.mp hx
      rw [show (defAt (K1 P) 136 0).2.2.2.line = _ from h1, beq_self_eq_true] at hne; cases hne
  · rfl
  · intro b hb
    rcases List.mem_cons.mp hb with rfl | hb
    · exact ⟨⟨0, rfl, rfl⟩, by kernel_rfl, by simp⟩
    · cases List.mem_singleton.mp hb
      exact ⟨⟨1, rfl, rfl⟩, by kernel_rfl, by simp⟩
  · intro q q' b hb
    rcases List.mem_cons.mp hb with rfl | hb
    · exact ⟨⟨0, rfl, rfl⟩, by kernel_rfl, by simp⟩
    · cases List.mem_singleton.mp hb
      exact ⟨⟨1, rfl, rfl⟩, by kernel_rfl, by simp⟩

noncomputable abbrev spansP (sp : List (Int × Int)) : VP := vLst (sp.map fun s => vTup [vInt s.1, vInt s.2])
noncomputable abbrev search2 (P : Params) (t : List Nat) (sp : List (Int × Int)) : VP := searchVP (K1 P) 136 [("text", vS t), ("spans", spansP sp)]

set_option maxHeartbeats 4000000 in
theorem search_ex (T : MakerOk C mg (hitTab (K1 P) 129 128 124)) (t : List Nat) (sp : List (Int × Int)) (j : Int) :
    Ex C ⟨(defAt (K1 P) 136 0).2.2.1, ["chars", "begin", "first", "behind", "text", "spans"], []⟩ (n + 1) (cloVals [vS t, vInt j] 2 [("text", vS t), ("spans", spansP sp)]) (defAt (K1 P) 136 0).2.1 (.ret (resP (hit2 P) (nxS sp j))) := by
  rw [show defAt (K1 P) 136 0 = (_, _, Scope.mk _ _ _ _ _, _) from rfl]
  dsimp only
  have hnd : (["chars", "begin", "first", "behind", "text", "spans"] : List Str).Nodup := by decide
  cases hx : nxS sp j with
  | none =>
    have hall : ∀ s ∈ sp, ¬ j < s.2 := by
      intro s hs
      induction sp with
      | nil => cases hs
      | cons a r ih =>
        unfold nxS at hx
        split at hx
        · cases hx
        · rcases List.mem_cons.mp hs with rfl | hs
          · assumption
          · exact ih hx hs
    refine Ex.cons (Ex1.for_ (Ev.name 5 rfl rfl) IterG.list (Turns.fold (fun s : Int × Int => vTup [vInt s.1, vInt s.2]) (fun st : Slot × Slot => [.val (vS t), .val (vInt j), st.1, st.2, .val (vS t), .val (spansP sp)])
      (fun _ s => [.val (vS t), .val (vInt j), .val (vInt s.1), .val (vInt s.2), .val (vS t), .val (spansP sp)]) (fun _ r => ∀ s ∈ r, ¬ j < s.2) (fun _ s => (.val (vInt s.1), .val (vInt s.2))) (fun st s => Asg.tuple (Names.cons 2 rfl rfl (Names.cons 3 rfl rfl Names.nil)) hnd) (fun st s r hi => ⟨?_, fun x hx => hi x (.tail _ hx)⟩) sp (.un, .un) hall)) (Ex.one (Ex1.ret Ev.none))
    exact Ex.one (Ex1.iff (c := false) ((EvB.bool (EvAll.and_cons (EvB.cmp (Ev.name 0 rfl rfl) (Ev.name 4 rfl rfl) CmpG.eqS) fun _ => EvAll.and_cons (EvB.cmp (Ev.name 1 rfl rfl) (Ev.name 3 rfl rfl) CmpG.lt) fun _ => EvAll.and_nil)).conv (by simpa using hi s (.head _))) (fun h => nomatch h) (fun _ => Ex.nil))
  | some m =>
    refine Ex.stop (Ex1.for_ (Ev.name 5 rfl rfl) IterG.list (Turns.run (fun s : Int × Int => vTup [vInt s.1, vInt s.2]) (fun st : Slot × Slot => [.val (vS t), .val (vInt j), st.1, st.2, .val (vS t), .val (spansP sp)])
      (fun _ s => [.val (vS t), .val (vInt j), .val (vInt s.1), .val (vInt s.2), .val (vS t), .val (spansP sp)]) (fun _ r => nxS r j = some m) (fun _ _ => .ret (hit2 P m.1 m.2)) (fun st s => Asg.tuple (Names.cons 2 rfl rfl (Names.cons 3 rfl rfl Names.nil)) hnd) (fun _ h => nomatch h) (fun st s r hi => ?_) sp (.un, .un) hx)) (fun _ => Out.noConfusion)
    unfold nxS at hi
    by_cases hj : j < s.2
    · rw [if_pos hj] at hi
      cases hi
      refine .inr (.inr ⟨_, Ex.one (Ex1.iff (c := true) ((EvB.bool (EvAll.and_cons (EvB.cmp (Ev.name 0 rfl rfl) (Ev.name 4 rfl rfl) CmpG.eqS) fun _ => EvAll.and_cons (EvB.cmp (Ev.name 1 rfl rfl) (Ev.name 3 rfl rfl) CmpG.lt) fun _ => EvAll.and_nil)).conv (by simpa using hj)) (fun _ => Ex.one (Ex1.ret ?_)) (fun h => nomatch h)), rfl⟩)
      exact Ev.call (Ev.glob (L.fn (by kernel_rfl)) rfl) (L.keep (by kernel_rfl)) (.cons (Ev.call (Ev.glob (g_max L) rfl) (KeepOk.builtin _) (.cons (Ev.name 2 rfl rfl) (.cons (Ev.name 1 rfl rfl) .nil)) FnG.max2) (.cons (Ev.name 3 rfl rfl) .nil)) (hit_fn L T _ _)
    · rw [if_neg hj] at hi
      refine .inl ⟨(.val (vInt s.1), .val (vInt s.2)), Ex.one (Ex1.iff (c := false) ((EvB.bool (EvAll.and_cons (EvB.cmp (Ev.name 0 rfl rfl) (Ev.name 4 rfl rfl) CmpG.eqS) fun _ => EvAll.and_cons (EvB.cmp (Ev.name 1 rfl rfl) (Ev.name 3 rfl rfl) CmpG.lt) fun _ => EvAll.and_nil)).conv (by simpa using hj)) (fun h => nomatch h) (fun _ => Ex.nil)), hi, rfl⟩

theorem search_call2 (T : MakerOk C mg (hitTab (K1 P) 129 128 124)) (t : List Nat) (sp : List (Int × Int)) (j : Int) : CallG C (n + 2) (search2 P t sp) [vS t, vInt j] (resP (hit2 P) (nxS sp j)) := by
  refine CallG.stmts (xs := ["chars", "begin"]) (locs := ["first", "behind"]) L.lim (.of (by kernel_rfl)) rfl (fun S s vs fd h1 h2 h3 h4 => ?_) (search_ex L T t sp j) (.ret _)
  obtain ⟨a, b, rfl, ha, hb⟩ := h4.two
  refine ⟨[a, b], ⟨ha, hb, trivial⟩, ?_⟩
  obtain ⟨tp, ws, e1, e2, e3, e4⟩ := h3
  obtain ⟨d, rfl, hd⟩ := e4.one
  obtain ⟨_, _, pr, _, _, _, _, df, kd, _, _, _, _, _, _⟩ := fd
  dsimp only at h1 h2 e1
  subst h1 h2 e1
  exact BindsTo.of_defaults rfl e3 rfl (show bindArgs _ _ = seqItems? _ >>= _ from rfl) (by kernel_rfl)

theorem search_call1 (T : MakerOk C mg (hitTab (K1 P) 129 128 124)) (t : List Nat) (sp : List (Int × Int)) : CallG C (n + 2) (search2 P t sp) [vS t] (resP (hit2 P) (nxS sp 0)) := by
  refine CallG.stmts (xs := ["chars", "begin"]) (locs := ["first", "behind"]) (ps' := [vS t, vInt 0]) L.lim (.of (by kernel_rfl)) rfl (fun S s vs fd h1 h2 h3 h4 => ?_) (search_ex L T t sp 0) (.ret _)
  obtain ⟨a, rfl, ha⟩ := h4.one
  obtain ⟨tp, ws, e1, e2, e3, e4⟩ := h3
  obtain ⟨d, rfl, hd⟩ := e4.one
  refine ⟨[a, d], ⟨ha, hd, trivial⟩, ?_⟩
  obtain ⟨_, _, pr, _, _, _, _, df, kd, _, _, _, _, _, _⟩ := fd
  dsimp only at h1 h2 e1
  subst h1 h2 e1
  exact BindsTo.of_defaults rfl e3 rfl (show bindArgs _ _ = seqItems? _ >>= _ from rfl) (by kernel_rfl)


theorem rev2_fn (T : MakerOk C mg (hitTab (K1 P) 129 128 124)) (t : List Nat) (sp : List (Int × Int)) (col : Int) : FnG C (n + 3) (.ref 28) [prog2 P t sp, vS t, vInt col] (resP (hit2 P) (srev (nxS sp) col)) :=
  rev_fn L isFn_clo (hit_ok L) (nxS_goes sp) (search_call1 L T t sp) (search_call2 L T t sp) col

end
end Mine

set_option tactic.hygienic false
set_option maxRecDepth 10000
namespace Mine
open PySem PySem.W PyProof.Rows

section
variable {C : Cx} {P : Params} {mg : Str → Option Value} (L : LawG C (K1 P) mg) {n : Nat}
include L

set_option maxHeartbeats 4000000 in
theorem column_fn (l : List Nat) (size : Int) (h1 : 0 < size) : FnG C (n + 1) (.ref 115) [vS l, vInt size] (vInt (colWalk size l)) := by
  refine FnG.top (L.def_ (xs := ["lead", "size"]) (names := ["lead", "size", "column", "sign"]) (cells := []) (by kernel_rfl) (by kernel_rfl) (bind_2 fun a b => by kernel_rfl)) rfl (o := .ret (vInt (colWalk size l))) ?_ (.ret _)
  rw [show fnAt (K1 P) 115 = FuncData.mk _ _ _ _ _ _ _ _ _ _ _ _ _ _ _ from rfl]
  dsimp only [bodyOf, startVals, List.map, List.append, List.replicate, List.length]
  have hnd : (["lead", "size", "column", "sign"] : List Str).Nodup := by decide
  refine Ex.cons (Ex1.assign 2 rfl hnd rfl Ev.int) ?_
  refine Ex.cons (Ex1.for_ (Ev.name 0 rfl rfl) iter_text (Turns.fold (fun c => vS [c]) (fun q : Int × Slot => [.val (vS l), .val (vInt size), .val (vInt q.1), q.2]) (fun q c => [.val (vS l), .val (vInt size), .val (vInt q.1), .val (vS [c])])
      (fun _ _ => True) (fun q c => (colStep size q.1 c, .val (vS [c]))) (fun q c => Asg.name 3 rfl hnd rfl) (fun q c r _ => ⟨?_, trivial⟩) l (0, .un) trivial)) ?_
  · refine Ex.one (Ex1.assign 2 rfl hnd rfl (Ev.ifexp (EvB.cmp (Ev.name 3 rfl rfl) (Ev.s [32] rfl) CmpG.eqS) (fun hc => ?_) (fun hc => ?_)))
    · have hc : c = 32 := by simpa using hc
      exact (Ev.bin (Ev.name 2 rfl rfl) Ev.int BinG.add).conv (by rw [show colStep size q.1 c = q.1 + 1 from if_pos hc])
    · have hc : ¬ c = 32 := by simpa using hc
      exact (Ev.bin (Ev.bin (Ev.name 2 rfl rfl) (Ev.bin (Ev.name 2 rfl rfl) (Ev.name 1 rfl rfl) (BinG.mod h1)) BinG.sub) (Ev.name 1 rfl rfl) BinG.add).conv (by rw [show colStep size q.1 c = q.1 - q.1 % size + size from if_neg hc])
  · have key : ∀ (l : List Nat) (q : Int × Slot), (l.foldl (fun q c => (colStep size q.1 c, Slot.val (vS [c]))) q).1 = l.foldl (colStep size) q.1 := by
      intro l
      induction l with
      | nil => intro q; rfl
      | cons c r ih => intro q; exact ih _
    exact Ex.one (Ex1.ret ((Ev.name 2 rfl rfl).conv (by rw [key]; rfl)))

noncomputable abbrev spNames : List Str := ["text", "size", "inward", "spans", "begin", "row", "lead", "first", "k"]
noncomputable abbrev spSlots (t : List Nat) (size : Int) (inward : Bool) (sp : List (Int × Int)) (t4 : List Slot) : List Slot := .val (vS t) :: .val (vInt size) :: .val (vBool inward) :: .own (sp.map spanP) :: t4

omit L in
theorem spans_snoc (sp : List (Int × Int)) (s : Int × Int) : sp.map spanP ++ [spanP s] = (sp ++ [s]).map spanP := by rw [List.map_append]; rfl
omit L in
theorem wsOf_n (l : List Nat) : 0 ≤ (wsOf l).n ∧ (wsOf l).n ≤ l.length := by
  have key : ∀ (l : List Nat) (st : WsS), st.n ≤ (wsScan l st).n ∧ (wsScan l st).n ≤ st.n + l.length := by
    intro l
    induction l with
    | nil => intro st; exact ⟨Int.le_refl _, Int.le_of_eq (Int.add_zero _).symm⟩
    | cons c r ih =>
      intro st
      unfold wsScan
      rw [List.length_cons]
      split
      · have := ih ⟨st.count, st.b + 1, st.n + 1, st.nt⟩; dsimp only at this; lia
      · split
        · have := ih ⟨bump st.count st.b, 0, st.n + 1, st.nt + 1⟩; dsimp only at this; lia
        · lia
  have := key l ⟨[], 0, 0, 0⟩
  dsimp only at this
  unfold wsOf; lia

set_option maxHeartbeats 8000000 in
theorem spans_fn (t : List Nat) (size : Int) (inward : Bool) (h1 : 1 ≤ size) (h2 : size ≤ 100) (hp : PageOk t) : FnG C (n + 3) (.ref 122) [vS t, vInt size, vBool inward] (vLst ((spans1 t size inward).map spanP)) := by
  refine FnG.top (n := n + 2) (L.def_ (xs := ["text", "size", "inward"]) (names := spNames) (cells := []) (by kernel_rfl) (by kernel_rfl) (bind_3 fun a b c => by kernel_rfl)) rfl (o := .ret (vLst ((spans1 t size inward).map spanP))) ?_ (.ret _)
  rw [show fnAt (K1 P) 122 = FuncData.mk _ _ _ _ _ _ _ _ _ _ _ _ _ _ _ from rfl]
  dsimp only [bodyOf, startVals, List.map, List.append, List.replicate, List.length]
  have hnd : spNames.Nodup := by decide
  have h40 : ∀ k : Nat, k ≤ 300 → -(2 ^ 40) ≤ (k : Int) ∧ (k : Int) < 2 ^ 40 := fun k h => ⟨by lia, by lia⟩
  refine Ex.cons (Ex1.assignOwn 3 rfl hnd rfl (EvL.list .nil)) ?_
  refine Ex.cons (Ex1.assign 4 rfl hnd rfl Ev.int) ?_
  refine Ex.cons (Ex1.for_ (Ev.methStr (Ev.name 0 rfl rfl) (.cons (Ev.s [10] rfl) .nil) (FnG.split (by have := hp.len; rw [sizeLine_eq]; lia)) PySem.F.slot_str_split PySem.F.type_str_split) IterG.list
    (Turns.fold vS (fun st : (List (Int × Int) × Int) × Slot => spSlots t size inward st.1.1 [.val (vInt st.1.2), st.2, .un, .un, .un]) (fun st r => spSlots t size inward st.1.1 [.val (vInt st.1.2), .val (vS r), .un, .un, .un])
      (fun st rs => st.1.1.length + 100 * rs.length ≤ 300 ∧ ∀ r ∈ rs, r.length ≤ 100) (fun st r => (rowStep size inward st.1 r, .val (vS r))) (fun st r => Asg.name 5 rfl hnd rfl) (fun st r rs hi => ?_) (splitOn 10 t) (([], 0), .un) ⟨by rw [hp.two]; decide, hp.row⟩)) ?_
  · obtain ⟨i1, i2⟩ := hi
    have hr := i2 r (.head _)
    rw [List.length_cons] at i1
    have hsr : r.length ≤ sizeLine := by rw [sizeLine_eq]; lia
    have hn := wsOf_n r
    have hlead : (leadIn r).length ≤ 100 := Nat.le_trans (cut_length _ _ _) hr
    have hsl : (leadIn r).length ≤ sizeLine := by rw [sizeLine_eq]; lia
    have hlen : ∀ {k : Nat}, FnG C k (.builtin "len") [vS (leadIn r)] (vInt (leadIn r).length) := fun {k} => FnG.lenS hsl
    -- the spans of one row
    have key : ∀ (ks : List Int) (st' : List (Int × Int) × Int), (ks.foldl (spStep (leadIn r) size inward st.1.2) st').1.length ≤ st'.1.length + ks.length := by
      intro ks
      induction ks with
      | nil => intro st'; exact Nat.le_refl _
      | cons k ks ih =>
        intro st'
        refine Nat.le_trans (ih _) ?_
        rw [List.length_cons]
        have : (spStep (leadIn r) size inward st.1.2 st' k).1.length ≤ st'.1.length + 1 := by
          unfold spStep
          repeat' split
          all_goals first | (rw [List.length_append]; exact Nat.le_refl _) | exact Nat.le_succ _
        lia
    refine ⟨?_, ?_, fun x hx => i2 x (.tail _ hx)⟩
    · refine Ex.forgetOut (v := spSlots t size inward (rowSpans (leadIn r) size inward st.1.2 st.1.1).1 [.val (vInt (st.1.2 + r.length + 1)), .val (vS r), .val (vS (leadIn r)), .val (vInt (rowSpans (leadIn r) size inward st.1.2 st.1.1).2), ((rangeL 0 (leadIn r).length 1).foldl (fun _ k => .val (vInt k)) .un)]) ?_ ⟨.inl rfl, .inl rfl, .inl rfl, .inl rfl, .inl rfl, .inl rfl, .inr rfl, .inr rfl, .inr rfl, trivial⟩
      refine Ex.cons (Ex1.assign (p := vS (leadIn r)) 6 rfl hnd rfl (Ev.sub (Ev.name 5 rfl rfl) (Ev.slice .none (.some (ws_n L (Ev.call (Ev.glob (g_ws L) rfl) (KeepOk.cls L.X (by kernel_rfl)) (.cons (Ev.name 5 rfl rfl) .nil) ((make_ws (n := n) L r (by lia)))) (fun _ => rfl)))) (SubG.cutS hsr))) ?_
      refine Ex.cons (Ex1.assign (p := vInt 0) 7 rfl hnd rfl Ev.int) ?_
      refine Ex.cons (Ex1.for_ (Ev.call (Ev.glob (g_range L) rfl) (KeepOk.type _) (.cons (Ev.call (Ev.glob (g_len L) rfl) (KeepOk.builtin _) (.cons (Ev.name 6 rfl rfl) .nil) hlen) .nil) FnG.range1) (IterG.range (by decide) (by decide) (h40 _ (by lia)) (by decide))
        (Turns.fold vInt (fun q : (List (Int × Int) × Int) × Slot => spSlots t size inward q.1.1 [.val (vInt st.1.2), .val (vS r), .val (vS (leadIn r)), .val (vInt q.1.2), q.2]) (fun q k => spSlots t size inward q.1.1 [.val (vInt st.1.2), .val (vS r), .val (vS (leadIn r)), .val (vInt q.1.2), .val (vInt k)])
          (fun q ks => q.1.1.length + ks.length ≤ 300 ∧ ∀ k ∈ ks, 0 ≤ k ∧ k < (leadIn r).length) (fun q k => (spStep (leadIn r) size inward st.1.2 q.1 k, .val (vInt k))) (fun q k => Asg.name 8 rfl hnd rfl) (fun q k ks hk => ?_) (rangeL 0 (leadIn r).length 1) ((st.1.1, 0), .un) ⟨?_, fun k hk => mem_rangeL hk⟩)) ?_
      · obtain ⟨k1, k2⟩ := hk
        obtain ⟨k3, k4⟩ := k2 k (.head _)
        rw [List.length_cons] at k1
        have hsz : (q.1.1.map spanP).length ≤ sizeLine := by rw [List.length_map, sizeLine_eq]; lia
        refine ⟨?_, ?_, fun x hx => k2 x (.tail _ hx)⟩
        · cases inward with
          | true =>
            refine Ex.one (Ex1.iff (c := true) (EvB.value (Ev.name 2 rfl rfl) (TruG.bool _)) (fun _ => ?_) (fun h => nomatch h))
            refine Ex.one (Ex1.iff (c := isUnit (leadIn r) size k) ((EvB.bool (EvAll.and_cons (EvB.cmp (Ev.sub (Ev.name 6 rfl rfl) (Ev.slice (.some (Ev.name 8 rfl rfl)) (.some (Ev.bin (Ev.name 8 rfl rfl) (Ev.name 1 rfl rfl) BinG.add))) (SubG.cutS hsl)) (Ev.bin (Ev.s [32] rfl) (Ev.name 1 rfl rfl) (BinG.mulS (by lia) (by lia))) CmpG.eqS) fun _ => EvAll.and_cons (EvB.cmp (Ev.bin (Ev.call (Ev.glob (L.fn (by kernel_rfl)) rfl) (L.keep (by kernel_rfl)) (.cons (Ev.sub (Ev.name 6 rfl rfl) (Ev.slice .none (.some (Ev.name 8 rfl rfl))) (SubG.cutS hsl)) (.cons (Ev.name 1 rfl rfl) .nil)) ((column_fn (n := 0) L (cut (leadIn r) none (some k)) size (by lia)).le (Nat.le_add_left _ _))) (Ev.name 1 rfl rfl) (BinG.mod (by lia))) Ev.int CmpG.eqI) fun _ => EvAll.and_nil)).conv (by rw [Bool.and_true]; rfl)) (fun hc => ?_) (fun hc => ?_))
            · rw [show spStep (leadIn r) size true st.1.2 q.1 k = (q.1.1 ++ [(st.1.2 + k, st.1.2 + k + size)], q.1.2) from by unfold spStep; rw [if_pos rfl, if_pos hc]]
              exact Ex.one ((Ex1.append (p := spanP (st.1.2 + k, st.1.2 + k + size)) 3 rfl rfl (Ev.tuple (.cons (Ev.bin (Ev.name 4 rfl rfl) (Ev.name 8 rfl rfl) BinG.add) (.cons (Ev.bin (Ev.bin (Ev.name 4 rfl rfl) (Ev.name 8 rfl rfl) BinG.add) (Ev.name 1 rfl rfl) BinG.add) .nil))) hsz).conv (by rw [spans_snoc]; rfl))
            · rw [show spStep (leadIn r) size true st.1.2 q.1 k = q.1 from by unfold spStep; rw [if_pos rfl, if_neg (by rw [hc]; decide)]]
              exact Ex.nil
          | false =>
            have hgk : (leadIn r)[k.toNat]? = some ((leadIn r).getD k.toNat 0) := by rw [List.getD_eq_getElem?_getD, List.getElem?_eq_getElem ((Int.toNat_lt k3).mpr k4)]; rfl
            refine Ex.one (Ex1.iff (c := false) (EvB.value (Ev.name 2 rfl rfl) (TruG.bool _)) (fun h => nomatch h) (fun _ => ?_))
            refine Ex.one (Ex1.iff (c := decide ((leadIn r).getD k.toNat 0 = 9)) ((EvB.cmp (Ev.sub (Ev.name 6 rfl rfl) (Ev.name 8 rfl rfl) (SubG.sign k3 (by lia) hgk)) (Ev.s [9] rfl) CmpG.eqS).conv (by simp)) (fun hc => ?_) (fun hc => ?_))
            · rw [show spStep (leadIn r) size false st.1.2 q.1 k = (q.1.1 ++ [(st.1.2 + q.1.2, st.1.2 + k + 1)], k + 1) from by unfold spStep; rw [if_neg (by decide), if_pos (of_decide_eq_true hc)]]
              refine Ex.cons ((Ex1.append (p := spanP (st.1.2 + q.1.2, st.1.2 + k + 1)) 3 rfl rfl (Ev.tuple (.cons (Ev.bin (Ev.name 4 rfl rfl) (Ev.name 7 rfl rfl) BinG.add) (.cons (Ev.bin (Ev.bin (Ev.name 4 rfl rfl) (Ev.name 8 rfl rfl) BinG.add) Ev.int BinG.add) .nil))) hsz).conv (o' := .next (spSlots t size false (q.1.1 ++ [(st.1.2 + q.1.2, st.1.2 + k + 1)]) [.val (vInt st.1.2), .val (vS r), .val (vS (leadIn r)), .val (vInt q.1.2), .val (vInt k)])) (by rw [spans_snoc]; rfl)) ?_
              exact Ex.one (Ex1.assign 7 rfl hnd rfl (Ev.bin (Ev.name 8 rfl rfl) Ev.int BinG.add))
            · rw [show spStep (leadIn r) size false st.1.2 q.1 k = q.1 from by unfold spStep; rw [if_neg (by decide), if_neg (of_decide_eq_false hc)]]
              exact Ex.nil
        · have := key [k] q.1
          simp only [List.foldl_cons, List.foldl_nil, List.length_cons, List.length_nil] at this
          show (spStep (leadIn r) size inward st.1.2 q.1 k).1.length + _ ≤ _
          lia
      · have := rangeL_length (leadIn r).length
        dsimp only
        lia
      have key2 : ∀ (ks : List Int) (q : (List (Int × Int) × Int) × Slot), ks.foldl (fun (q : (List (Int × Int) × Int) × Slot) k => (spStep (leadIn r) size inward st.1.2 q.1 k, Slot.val (vInt k))) q = (ks.foldl (spStep (leadIn r) size inward st.1.2) q.1, ks.foldl (fun _ k => .val (vInt k)) q.2) := by
        intro ks
        induction ks with
        | nil => intro q; rfl
        | cons k ks ih => intro q; exact ih _
      rw [key2]
      exact Ex.one (Ex1.assign 4 rfl hnd rfl (Ev.bin (Ev.bin (Ev.name 4 rfl rfl) (Ev.call (Ev.glob (g_len L) rfl) (KeepOk.builtin _) (.cons (Ev.name 5 rfl rfl) .nil) (FnG.lenS hsr)) BinG.add) Ev.int BinG.add))
    · have := key (rangeL 0 (leadIn r).length 1) (st.1.1, 0)
      rw [rangeL_length] at this
      show (rowSpans (leadIn r) size inward st.1.2 st.1.1).1.length + _ ≤ _
      unfold rowSpans
      dsimp only at this
      lia
  · have key3 : ∀ (rs : List (List Nat)) (st : (List (Int × Int) × Int) × Slot), (rs.foldl (fun (st : (List (Int × Int) × Int) × Slot) r => (rowStep size inward st.1 r, Slot.val (vS r))) st).1 = rs.foldl (rowStep size inward) st.1 := by
      intro rs
      induction rs with
      | nil => intro st; rfl
      | cons r rs ih => intro st; exact ih _
    refine Ex.freeze 3 rfl rfl (Ex.one (Ex1.ret ((Ev.name 3 rfl rfl).conv ?_)))
    rw [key3]; rfl

end
end Mine

set_option tactic.hygienic false
set_option maxRecDepth 10000
namespace Mine
open PySem PySem.W PyProof.Rows

theorem splitOn_part (c : Nat) : ∀ (l p : List Nat), p ∈ splitOn c l → p.length ≤ l.length
  | [], p, h => by rw [List.mem_singleton.mp h]; exact Nat.le_refl _
  | x :: r, p, h => by
    have ih := splitOn_part c r
    rw [splitOn] at h
    by_cases hx : x = c
    · rw [if_pos hx] at h
      rcases List.mem_cons.mp h with rfl | h
      · exact Nat.zero_le _
      · exact Nat.le_succ_of_le (ih p h)
    · rw [if_neg hx] at h
      cases e : splitOn c r with
      | nil => exact absurd e (splitOn_ne c r)
      | cons q qs =>
        rw [e] at h ih
        rcases List.mem_cons.mp h with rfl | h
        · exact Nat.succ_le_succ (ih q (.head _))
        · exact Nat.le_succ_of_le (ih p (.tail _ h))

section
variable {C : Cx} {P : Params} {mg : Str → Option Value} (L : LawG C (K1 P) mg) {n : Nat}
include L

set_option maxHeartbeats 8000000 in
theorem apart_fn (one other : List Nat) (h1 : one.length ≤ 50) (h2 : other.length ≤ 50) : FnG C (n + 2) (.ref 146) [vS one, vS other] (vLst ((apartOf one other).map tripP)) := by
  refine FnG.top (n := n + 1) (L.def_ (xs := ["one", "other"]) (names := ["one", "other", "last", "pairs"]) (cells := ["one", "other"]) (by kernel_rfl) (by kernel_rfl) (bind_2 fun a b => by kernel_rfl)) rfl (o := .ret (vLst ((apartOf one other).map tripP))) ?_ (.ret _)
  rw [show fnAt (K1 P) 146 = FuncData.mk _ _ _ _ _ _ _ _ _ _ _ _ _ _ _ from rfl]
  dsimp only [bodyOf, startVals, List.map, List.append, List.replicate, List.length]
  have hnd : (["one", "other", "last", "pairs"] : List Str).Nodup := by decide
  have hl : (one ++ [9] ++ other).length ≤ 101 := by simp only [List.length_append, List.length_singleton]; lia
  have hsp := splitOn_length 9 (one ++ [9] ++ other)
  have hne : ((splitOn 9 (one ++ [9] ++ other)).map fun run => (run.length : Int)) ≠ [] := fun h => splitOn_ne _ _ (List.map_eq_nil_iff.mp h)
  have hlast : lastRun one other ≤ 102 ∧ 1 ≤ lastRun one other := by
    obtain ⟨m1, _⟩ := maxL_mem hne
    obtain ⟨r, hr, e⟩ := List.mem_map.mp m1
    have := splitOn_part 9 _ r hr
    unfold lastRun; lia
  refine Ex.cons (Ex1.assign (p := vInt (lastRun one other)) 2 rfl hnd rfl (Ev.bin (Ev.call (Ev.glob (g_max L) rfl) (KeepOk.builtin _) (.cons (EvL.ev (EvL.compOf (l := ((splitOn 9 (one ++ [9] ++ other)).map fun run => (run.length : Int)).map vInt) ["run"] [] [] (by kernel_rfl) trivial
    (Ev.methStr (Ev.bin (Ev.bin (Ev.name 0 rfl rfl) (Ev.s [9] rfl) (BinG.addS (by rw [sizeLine_eq]; simp only [List.length_singleton]; lia))) (Ev.name 1 rfl rfl) (BinG.addS (by rw [sizeLine_eq]; simp only [List.length_append, List.length_singleton]; lia))) (.cons (Ev.s [9] rfl) .nil) (FnG.split (by rw [sizeLine_eq]; lia)) PySem.F.slot_str_split PySem.F.type_str_split) IterG.list ?_ ?_)) .nil) (FnG.maxL hne)) Ev.int BinG.add)) ?_
  · rw [List.map_map]
    refine CTurns.map vS (vInt ∘ fun run => (run.length : Int)) (fun o => [(match o with | some r => .val (vS r) | none => .un)]) (fun o i => Asg.name 0 rfl (by decide) rfl) _ none (fun r hr => ?_)
    exact Ev.call (Ev.glob (g_len L) rfl) (KeepOk.builtin _) (.cons (Ev.name 0 rfl rfl) .nil) (FnG.lenS (by have := splitOn_part 9 _ r hr; rw [sizeLine_eq]; lia))
  · rw [List.length_map, List.length_map, sizeLine_eq]; lia
  have hrl : (rangeL 1 (lastRun one other + 1) 1).length ≤ 200 := by
    have := rangeL_length' 1 (lastRun one other + 1) (by decide)
    lia
  refine Ex.cons (Ex1.assignComp (l := ((rangeL 1 (lastRun one other + 1) 1).map fun size => (size, colWalk size one, colWalk size other)).map tripP) 3 ["size"] [0, 1] [vS one, vS other] rfl hnd rfl (by kernel_rfl) ⟨rfl, rfl, trivial⟩ (Ev.call (Ev.glob (g_range L) rfl) (KeepOk.type _) (.cons Ev.int (.cons (Ev.bin (Ev.name 2 rfl rfl) Ev.int BinG.add) .nil)) FnG.range2) (IterG.range (by decide) (by decide) ⟨by lia, by lia⟩ (by decide)) ?_ ?_) (Ex.freeze 3 rfl rfl ?_)
  · rw [List.map_map]
    refine CTurns.map vInt (tripP ∘ fun size => (size, colWalk size one, colWalk size other)) (fun o => [(match o with | some i => .val (vInt i) | none => .un), .val (vS one), .val (vS other)]) (fun o i => Asg.name 0 rfl (by decide) rfl) _ none (fun k hk => ?_)
    have hk0 : 0 < k := Int.lt_of_lt_of_le (by decide) (mem_rangeL hk).1
    exact Ev.tuple (.cons (Ev.name 0 rfl rfl) (.cons (Ev.call (Ev.glob (L.fn (by kernel_rfl)) rfl) (L.keep (by kernel_rfl)) (.cons (Ev.name 1 rfl rfl) (.cons (Ev.name 0 rfl rfl) .nil)) (column_fn L one k hk0)) (.cons (Ev.call (Ev.glob (L.fn (by kernel_rfl)) rfl) (L.keep (by kernel_rfl)) (.cons (Ev.name 2 rfl rfl) (.cons (Ev.name 0 rfl rfl) .nil)) (column_fn L other k hk0)) .nil)))
  · rw [List.length_map, List.length_map, sizeLine_eq]; lia
  refine Ex.one (Ex1.ret (EvL.ev (EvL.compOf ["pair"] [] [] (by kernel_rfl) trivial (Ev.name 3 rfl rfl) IterG.list
    (CTurns.sel tripP tripP (fun o => [(match o with | some i => .val (tripP i) | none => .un)]) (fun p => decide (p.2.1 ≠ p.2.2)) (fun o i => Asg.name 0 rfl (by decide) rfl) _ none (fun p hp => ?_) (fun p hp _ => Ev.name 0 rfl rfl)) ?_)))
  · exact EvIfs.one (EvB.cmp (Ev.sub (Ev.name 0 rfl rfl) Ev.int (SubG.tup (by decide) (by decide) rfl)) (Ev.sub (Ev.name 0 rfl rfl) Ev.int (SubG.tup (by decide) (by decide) rfl)) CmpG.neI)
  · rw [List.length_map, sizeLine_eq]
    unfold apartOf
    have := List.length_filter_le (fun p : Int × Int × Int => decide (p.2.1 ≠ p.2.2)) ((rangeL 1 (lastRun one other + 1) 1).map fun size => (size, colWalk size one, colWalk size other))
    rw [List.length_map] at this
    lia

set_option maxHeartbeats 8000000 in
theorem witness_fn (l l' : List Nat) (w v : WsS) (hw : w.small) (hv : v.small) : FnG C (n + 2) (.ref 80) [vObj 97 (wsAttrs l w), vObj 97 (wsAttrs l' v)] (vLst ((witOf w v).map tripP)) := by
  refine FnG.top (n := n + 1) (L.def_ (xs := ["self", "other"]) (names := ["self", "other", "n", "a", "ts"]) (cells := []) (by kernel_rfl) (by kernel_rfl) (bind_2 fun a b => by kernel_rfl)) rfl (o := .ret (vLst ((witOf w v).map tripP))) ?_ (.ret _)
  rw [show fnAt (K1 P) 80 = FuncData.mk _ _ _ _ _ _ _ _ _ _ _ _ _ _ _ from rfl]
  dsimp only [bodyOf, startVals, List.map, List.append, List.replicate, List.length]
  have hnd : (["self", "other", "n", "a", "ts"] : List Str).Nodup := by decide
  have r1 := hw.run
  have r2 := hv.run
  have hrun : ∀ {fr : Shape} {vals : List Slot} {x : Expr} {ap cp : Pos} {l : List Nat} {w : WsS} (_ : w.small), Ev C fr (n + 1) vals x (vObj 97 (wsAttrs l w)) → (∀ env, attributeBase x "longest_run_of_spaces" env (eval x env) = eval x env) → (ap.endLine == cp.line) = true →
      Ev C fr (n + 1) vals (.Call (.Attribute x "longest_run_of_spaces" ap) [] [] cp) (vInt (runOf w)) := fun hw h hb hl =>
    Ev.methObj h L.X (by kernel_rfl) (by kernel_rfl) (by kernel_rfl) rfl (L.keep (by kernel_rfl)) .nil (run_fn L _ _ hw) hb (by simp) hl
  have hlev : ∀ {fr : Shape} {vals : List Slot} {x y : Expr} {ap cp : Pos} {l : List Nat} {w : WsS} {ts : Int} (_ : w.small) (_ : 1 ≤ ts ∧ ts ≤ 5000), Ev C fr (n + 1) vals x (vObj 97 (wsAttrs l w)) → EvArgs C fr (n + 1) vals [y] [vInt ts] → (∀ env, attributeBase x "indent_level" env (eval x env) = eval x env) → (ap.endLine == cp.line) = true →
      Ev C fr (n + 1) vals (.Call (.Attribute x "indent_level" ap) [y] [] cp) (vInt (levelOf w ts)) := fun hw ht h ha hb hl =>
    Ev.methObj h L.X (by kernel_rfl) (by kernel_rfl) (by kernel_rfl) rfl (L.keep (by kernel_rfl)) ha (level_fn L _ _ hw _ ht.1 ht.2) hb (by simp) hl
  refine Ex.cons (Ex1.assign (p := vInt (max (runOf w) (runOf v) + 1)) 2 rfl hnd rfl (Ev.bin (Ev.call (Ev.glob (g_max L) rfl) (KeepOk.builtin _) (.cons (hrun hw (Ev.name 0 rfl rfl) (fun _ => rfl) rfl) (.cons (hrun hv (Ev.name 1 rfl rfl) (fun _ => rfl) rfl) .nil)) FnG.max2) Ev.int BinG.add)) ?_
  have hN : max (runOf w) (runOf v) ≤ 1001 ∧ 0 ≤ max (runOf w) (runOf v) := ⟨Int.max_le.mpr ⟨r1.2, r2.2⟩, Int.le_trans r1.1 (Int.le_max_left _ _)⟩
  unfold witOf
  generalize max (runOf w) (runOf v) = N at hN
  refine Ex.cons (Ex1.assignOwn 3 rfl hnd rfl (EvL.list .nil)) ?_
  refine Ex.cons (Ex1.for_ (Ev.call (Ev.glob (g_range L) rfl) (KeepOk.type _) (.cons Ev.int (.cons (Ev.bin (Ev.name 2 rfl rfl) Ev.int BinG.add) .nil)) FnG.range2) (IterG.range (by decide) (by decide) ⟨by lia, by lia⟩ (by decide))
    (Turns.fold vInt (fun st : List (Int × Int × Int) × Slot => [.val (vObj 97 (wsAttrs l w)), .val (vObj 97 (wsAttrs l' v)), .val (vInt (N + 1)), .own (st.1.map tripP), st.2]) (fun st ts => [.val (vObj 97 (wsAttrs l w)), .val (vObj 97 (wsAttrs l' v)), .val (vInt (N + 1)), .own (st.1.map tripP), .val (vInt ts)])
      (fun st r => st.1.length + r.length ≤ 2000 ∧ ∀ ts ∈ r, 1 ≤ ts ∧ ts ≤ 5000) (fun st ts => (if levelOf w ts ≠ levelOf v ts then st.1 ++ [(ts, levelOf w ts, levelOf v ts)] else st.1, .val (vInt ts))) (fun st ts => Asg.name 4 rfl hnd rfl) (fun st ts r hi => ?_) (rangeL 1 (N + 1 + 1) 1) ([], .un) ⟨?_, fun ts h => ?_⟩)) ?_
  · obtain ⟨i1, i2⟩ := hi
    have ht := i2 ts (.head _)
    rw [List.length_cons] at i1
    refine ⟨Ex.one (Ex1.iff (EvB.cmp (hlev hw ht (Ev.name 0 rfl rfl) (.cons (Ev.name 4 rfl rfl) .nil) (fun _ => rfl) rfl) (hlev hv ht (Ev.name 1 rfl rfl) (.cons (Ev.name 4 rfl rfl) .nil) (fun _ => rfl) rfl) CmpG.neI) (fun hc => ?_) (fun hc => ?_)), ?_, fun x hx => i2 x (.tail _ hx)⟩
    · rw [if_pos (of_decide_eq_true hc)]
      refine Ex.one ((Ex1.append (p := tripP (ts, levelOf w ts, levelOf v ts)) 3 rfl rfl (Ev.tuple (.cons (Ev.name 4 rfl rfl) (.cons (hlev hw ht (Ev.name 0 rfl rfl) (.cons (Ev.name 4 rfl rfl) .nil) (fun _ => rfl) rfl) (.cons (hlev hv ht (Ev.name 1 rfl rfl) (.cons (Ev.name 4 rfl rfl) .nil) (fun _ => rfl) rfl) .nil)))) (by rw [List.length_map, sizeLine_eq]; lia)).conv ?_)
      rw [show (st.1 ++ [(ts, levelOf w ts, levelOf v ts)]).map tripP = st.1.map tripP ++ [tripP (ts, levelOf w ts, levelOf v ts)] from by rw [List.map_append]; rfl]
      rfl
    · rw [if_neg (of_decide_eq_false hc)]
      exact Ex.nil
    · dsimp only
      split
      · rw [List.length_append, List.length_singleton]; lia
      · lia
  · have := rangeL_length' 1 (N + 1 + 1) (by decide)
    dsimp only [List.length_nil]
    lia
  · have := mem_rangeL h; lia
  · have key : ∀ (r : List Int) (st : List (Int × Int × Int) × Slot), (r.foldl (fun (st : List (Int × Int × Int) × Slot) ts => (if levelOf w ts ≠ levelOf v ts then st.1 ++ [(ts, levelOf w ts, levelOf v ts)] else st.1, Slot.val (vInt ts))) st).1 = st.1 ++ (r.filter fun ts => decide (levelOf w ts ≠ levelOf v ts)).map fun ts => (ts, levelOf w ts, levelOf v ts) := by
      intro r
      induction r with
      | nil => intro st; exact (List.append_nil _).symm
      | cons ts r ih =>
        intro st
        rw [List.foldl_cons, ih]
        by_cases h : levelOf w ts ≠ levelOf v ts
        · rw [if_pos h, List.filter_cons_of_pos (p := fun ts => decide (levelOf w ts ≠ levelOf v ts)) (decide_eq_true h), List.map_cons]; exact List.append_assoc _ _ _
        · rw [if_neg h, List.filter_cons_of_neg (p := fun ts => decide (levelOf w ts ≠ levelOf v ts)) (by rw [decide_eq_false h]; decide)]
    refine Ex.freeze 3 rfl rfl (Ex.one (Ex1.ret ((Ev.name 3 rfl rfl).conv ?_)))
    rw [key]; rfl

end
end Mine

set_option tactic.hygienic false
set_option maxRecDepth 10000
namespace Mine
open PySem PySem.W PyProof.Rows

noncomputable abbrev rowsP (rows : List (List Nat)) : VP := vLst (rows.map vS)
noncomputable abbrev intsP (a : List Int) : VP := vLst (a.map vInt)
noncomputable def forBody : Stmt → List Stmt
  | .For _ _ b _ _ => b
  | _ => []
noncomputable def forTgt : Stmt → Expr
  | .For t _ _ _ _ => t
  | _ => default
noncomputable abbrev runNames : List Str := ["text", "size", "moves", "levels", "inward", "spans", "move", "rows", "line", "col", "told", "bound", "ahead", "prog", "found", "first", "behind", "above", "written", "wide"]
noncomputable abbrev runSlots (t : List Nat) (size : Int) (moves levels : List Int) (inward : Bool) (r : List Slot) : List Slot :=
  .val (vS t) :: .val (vInt size) :: .val (intsP moves) :: .val (intsP levels) :: .val (vBool inward) :: .val (spansP (spans1 t size inward)) :: r
theorem run_nd : runNames.Nodup := by decide

section
variable {C : Cx} {P : Params} {mg : Str → Option Value} (L : LawG C (K1 P) mg) {n : Nat}
include L

noncomputable abbrev runFr (P : Params) : Shape := ⟨(fnAt (K1 P) 141).scope, runNames, ["bound"]⟩

theorem g_str : GlobIs C "str" (.type "str") := L.bi (by kernel_rfl) (by decide +kernel) (by decide)


theorem ws_level {fr : Shape} {vals : List Slot} {x y : Expr} {np cp ap dp : Pos} {r : List Nat} {size : Int} (hr : r.length ≤ 1000) (h1 : 1 ≤ size) (h2 : size ≤ 100) (hx : EvArgs C fr (n + 2) vals [x] [vS r]) (hy : EvArgs C fr (n + 2) vals [y] [vInt size])
    (hg : Ev C fr (n + 2) vals (.Name "Whitespace" np) (vIs (.ref 97))) (hb : ∀ env, attributeBase (.Call (.Name "Whitespace" np) [x] [] cp) "indent_level" env (eval (.Call (.Name "Whitespace" np) [x] [] cp) env) = eval (.Call (.Name "Whitespace" np) [x] [] cp) env) (hl : (ap.endLine == dp.line) = true) :
    Ev C fr (n + 2) vals (.Call (.Attribute (.Call (.Name "Whitespace" np) [x] [] cp) "indent_level" ap) [y] [] dp) (vInt (levelOf (wsOf r) size)) :=
  Ev.methObj (Ev.call hg (KeepOk.cls L.X (by kernel_rfl)) hx (make_ws (n := n) L r hr)) L.X (by kernel_rfl) (by kernel_rfl) (by kernel_rfl) rfl (L.keep (by kernel_rfl)) hy ((level_fn (n := 0) L _ _ (wsOf_small hr) _ h1 (by lia)).le (by lia)) hb (by simp) hl

set_option maxHeartbeats 8000000 in

theorem run_take (t : List Nat) (size : Int) (moves levels : List Int) (inward : Bool) (h1 : 1 ≤ size) (h2 : size ≤ 100) (hp : PageOk t) (s : Int × Int) (S : SpanOk t size inward levels s) (a : List (Int × Int)) (ha : a.length ≤ 1000) (hl : a.getLast? = some s) (s6 s7 s8 s9 s10 s11 s13 s15 s16 s17 s18 s19 : Slot) :
    Ex C (runFr P) (n + 5) (runSlots t size moves levels inward [s6, s7, s8, s9, s10, s11, .val (spansP a), s13, .val (hit2 P s.1 s.2), s15, s16, s17, s18, s19]) ((forBody (stAt (bodyOf (fnAt (K1 P) 141)) 1)).drop 10)
      (.next (runSlots (newText t size inward s) size moves levels inward [.un, .un, .un, .un, .un, .un, .un, .un, .un, .un, .un, .un, .un, .un])) := by
  rw [show (forBody (stAt (bodyOf (fnAt (K1 P) 141)) 1)).drop 10 = [_, _, _, _, _, _, _, _] from rfl]
  rw [show runFr P = ⟨Scope.mk _ _ _ _ _, _, _⟩ from rfl]
  have H : HitOk C (n + 5) (hit2 P) := hit_ok L
  have hnd := run_nd
  have hlen := hp.len
  have hsz : (a.map spanP).length ≤ sizeLine := by rw [List.length_map, sizeLine_eq]; lia
  have hst : t.length ≤ sizeLine := by rw [sizeLine_eq]; lia
  have hcut : ∀ lo hi, (cut t lo hi).length ≤ 300 := fun lo hi => Nat.le_trans (cut_length _ _ _) hlen
  have hpos := S.pos
  have hlt := S.lt
  have hle := S.le
  have hab1 := S.row
  have hab : 1 ≤ (above1 t s.1).length := List.length_pos_iff.mpr (splitOn_ne 10 _)
  have hsa : ((above1 t s.1).map vS).length ≤ sizeLine := by rw [List.length_map, sizeLine_eq]; lia
  have hpart : ∀ r ∈ above1 t s.1, r.length ≤ 300 := fun r hr => Nat.le_trans (splitOn_part 10 _ r hr) (hcut _ _)
  refine Ex.cons (Ex1.iff (c := false) ((EvB.bool (EvAll.or_cons (EvB.cmp (Ev.name 14 rfl rfl) Ev.none (CmpG.isNone' (H.notNone s.1 s.2))) fun _ => EvAll.or_cons (EvB.cmp (EvL.ev (EvL.list (.cons (H.span (i := s.1) (j := s.2) (Ev.name 14 rfl rfl) (fun _ => rfl) rfl) .nil))) ((Ev.sub (Ev.name 12 rfl rfl) (Ev.slice (.some (Ev.neg Ev.int)) .none) (SubG.cutL hsz)).conv (by rw [cut_map])) (CmpG.neSpans (a := [s]))) fun _ => EvAll.or_nil)).conv (by rw [show (-(1 : Int)) = -1 from rfl, cut_last hl, decide_eq_true rfl]; rfl)) (fun h => nomatch h) (fun _ => Ex.nil)) ?_
  refine Ex.cons (Ex1.assignTuple (H.span (i := s.1) (j := s.2) (Ev.name 14 rfl rfl) (fun _ => rfl) rfl) (Names.cons 15 rfl rfl (Names.cons 16 rfl rfl Names.nil)) hnd) ?_
  refine Ex.cons (Ex1.assign (p := rowsP (above1 t s.1)) 17 rfl hnd rfl (Ev.methStr (Ev.sub (Ev.name 0 rfl rfl) (Ev.slice .none (.some (Ev.name 15 rfl rfl))) (SubG.cutS hst)) (.cons (Ev.s [10] rfl) .nil) (FnG.split (by have := hcut none (some s.1); rw [sizeLine_eq]; lia)) PySem.F.slot_str_split PySem.F.type_str_split)) ?_
  refine Ex.cons (Ex1.assign 18 rfl hnd rfl (Ev.s [9] rfl)) ?_
  refine Ex.cons (vals' := runSlots t size moves levels inward [s6, s7, s8, s9, s10, s11, .val (spansP a), s13, .val (hit2 P s.1 s.2), .val (vInt s.1), .val (vInt s.2), .val (rowsP (above1 t s.1)), .val (vS (written1 t size inward s)), .un]) (Ex1.iff (EvB.not (EvB.value (Ev.name 4 rfl rfl) (TruG.bool inward))) (fun hc => ?_) (fun hc => ?_)) ?_
  · have hin : inward = false := by simpa using hc
    subst hin
    obtain ⟨w0, w1⟩ := S.wide rfl
    have hlast : (above1 t s.1)[(above1 t s.1).length - 1]? = some (lastOf (above1 t s.1)) := by
      unfold lastOf
      rw [List.getD_eq_getElem?_getD, List.getElem?_eq_getElem (by lia)]; rfl
    have hll : (lastOf (above1 t s.1)).length ≤ 300 := hpart _ (List.mem_of_getElem? hlast)
    have hit : SubG C (rowsP (above1 t s.1)) (vInt (-1)) (vS (lastOf (above1 t s.1))) := SubG.itemNeg (by decide) (by rw [List.length_map]; lia) (by decide) (by
      rw [List.length_map, show (-1 + ((above1 t s.1).length : Int)).toNat = (above1 t s.1).length - 1 by lia, List.getElem?_map, hlast]; rfl)
    have hc2 := hcut (some s.1) (some s.2)
    refine Ex.forgetOut (Ex.cons (Ex1.assign (p := vInt (wideOf t size s)) 19 rfl hnd rfl (Ev.bin (ws_level (n := n + 3) L (r := lastOf (above1 t s.1) ++ cut t (some s.1) (some s.2)) (by rw [List.length_append]; lia) h1 h2 (.cons (Ev.bin (Ev.sub (Ev.name 17 rfl rfl) (Ev.neg Ev.int) hit) (Ev.sub (Ev.name 0 rfl rfl) (Ev.slice (.some (Ev.name 15 rfl rfl)) (.some (Ev.name 16 rfl rfl))) (SubG.cutS hst)) (BinG.addS (by rw [sizeLine_eq]; lia))) .nil) (.cons (Ev.name 1 rfl rfl) .nil) (Ev.glob (g_ws L) rfl) (fun _ => rfl) rfl)
      (ws_level (n := n + 3) L (r := lastOf (above1 t s.1)) (by lia) h1 h2 (.cons (Ev.sub (Ev.name 17 rfl rfl) (Ev.neg Ev.int) hit) .nil) (.cons (Ev.name 1 rfl rfl) .nil) (Ev.glob (g_ws L) rfl) (fun _ => rfl) rfl) BinG.sub)) (Ex.one (Ex1.assign (p := vS (written1 t size false s)) 18 rfl hnd rfl ((Ev.bin (Ev.s [32] rfl) (Ev.name 19 rfl rfl) (BinG.mulS (by lia) (by lia))).conv (by rw [show written1 t size false s = _ from if_neg (by decide)]))))) ?_
    exact ⟨.inl rfl, .inl rfl, .inl rfl, .inl rfl, .inl rfl, .inl rfl, .inl rfl, .inl rfl, .inl rfl, .inl rfl, .inl rfl, .inl rfl, .inl rfl, .inl rfl, .inl rfl, .inl rfl, .inl rfl, .inl rfl, .inl rfl, .inr rfl, trivial⟩
  · have hin : inward = true := by simpa using hc
    subst hin
    exact Ex.forgetOut Ex.nil ⟨.inl rfl, .inl rfl, .inl rfl, .inl rfl, .inl rfl, .inl rfl, .inl rfl, .inl rfl, .inl rfl, .inl rfl, .inl rfl, .inl rfl, .inl rfl, .inl rfl, .inl rfl, .inl rfl, .inl rfl, .inl rfl, .inl rfl, .inr rfl, trivial⟩
  have hwl : (written1 t size inward s).length ≤ 1000 := by
    unfold written1
    split
    · exact (by decide : (1 : Nat) ≤ 1000)
    · rename_i hc
      have := S.wide (by simpa using hc)
      rw [List.length_replicate]; lia
  have hc1 := hcut none (some s.1)
  have hc3 := hcut (some s.2) none
  refine Ex.cons (Ex1.assign (p := vS (newText t size inward s)) 0 rfl hnd rfl (Ev.bin (Ev.bin (Ev.sub (Ev.name 0 rfl rfl) (Ev.slice .none (.some (Ev.name 15 rfl rfl))) (SubG.cutS hst)) (Ev.name 18 rfl rfl) (BinG.addS (by rw [sizeLine_eq]; lia))) (Ev.sub (Ev.name 0 rfl rfl) (Ev.slice (.some (Ev.name 16 rfl rfl)) .none) (SubG.cutS hst)) (BinG.addS (by rw [List.length_append, sizeLine_eq]; lia)))) ?_
  obtain ⟨r, r1, r2, r3⟩ := S.level
  have hpg := S.page
  have hpl := hpg.len
  have hidx : FnG C (n + 5) (.builtin "len") [rowsP (above1 t s.1)] (vInt (above1 t s.1).length) := (FnG.lenL hsa).conv (by rw [List.length_map])
  have hi0 : 0 ≤ ((above1 t s.1).length : Int) - 1 := by lia
  have hi1 : ((above1 t s.1).length : Int) - 1 < 2 ^ 63 := by lia
  have hti : (((above1 t s.1).length : Int) - 1).toNat = (above1 t s.1).length - 1 := by lia
  refine Ex.cons (Ex1.iff (c := false) ((EvB.cmp (ws_level (n := n + 3) L (r := r) (by lia) h1 h2 (.cons (Ev.sub (Ev.methStr (Ev.name 0 rfl rfl) (.cons (Ev.s [10] rfl) .nil) (FnG.split (by rw [sizeLine_eq]; lia)) PySem.F.slot_str_split PySem.F.type_str_split) (Ev.bin (Ev.call (Ev.glob (g_len L) rfl) (KeepOk.builtin _) (.cons (Ev.name 17 rfl rfl) .nil) hidx) Ev.int BinG.sub) (SubG.item hi0 hi1 (by rw [hti, List.getElem?_map, r1]; rfl))) .nil) (.cons (Ev.name 1 rfl rfl) .nil) (Ev.glob (g_ws L) rfl) (fun _ => rfl) rfl)
    (Ev.sub (Ev.name 3 rfl rfl) (Ev.bin (Ev.call (Ev.glob (g_len L) rfl) (KeepOk.builtin _) (.cons (Ev.name 17 rfl rfl) .nil) hidx) Ev.int BinG.sub) (SubG.item (p := vInt (levelOf (wsOf r) size)) hi0 hi1 (by rw [hti, List.getElem?_map, r3]; rfl))) CmpG.neI).conv (decide_eq_false (fun h => h rfl))) (fun h => nomatch h) (fun _ => Ex.nil)) ?_
  refine Ex.forgetOut (Ex.one (Ex1.assign (p := spansP (spans1 (newText t size inward s) size inward)) 5 rfl hnd rfl (Ev.call (Ev.glob (L.fn (by kernel_rfl)) rfl) (L.keep (by kernel_rfl)) (.cons (Ev.name 0 rfl rfl) (.cons (Ev.name 1 rfl rfl) (.cons (Ev.name 4 rfl rfl) .nil))) ((spans_fn (n := 0) L _ size inward h1 h2 hpg).le (Nat.le_add_left _ _))))) ?_
  exact ⟨.inl rfl, .inl rfl, .inl rfl, .inl rfl, .inl rfl, .inl rfl, .inr rfl, .inr rfl, .inr rfl, .inr rfl, .inr rfl, .inr rfl, .inr rfl, .inr rfl, .inr rfl, .inr rfl, .inr rfl, .inr rfl, .inr rfl, .inr rfl, trivial⟩

end
end Mine

set_option tactic.hygienic false
set_option maxRecDepth 10000
namespace Mine
open PySem PySem.W PyProof.Rows

noncomputable def lineOf1 (m : Int) : Int := m % 2 + 1
noncomputable def colOf1 (t : List Nat) (m : Int) : Int := m / 2 % ((rowAt (splitOn 10 t) (lineOf1 m - 1)).length + 1)
noncomputable def headOf (t : List Nat) (m : Int) : List (List Nat) := cut (splitOn 10 t) none (some (lineOf1 m - 1)) ++ [cut (rowAt (splitOn 10 t) (lineOf1 m - 1)) none (some (colOf1 t m))]
noncomputable def boundOf (t : List Nat) (m : Int) : Int := (joinOn 10 (headOf t m)).length

theorem CmpG.nePair {C : Cx} {a b : Int} : CmpG C .NotEq (vTup [vInt a, vInt b]) (vTup [vInt a, vInt b]) false := by
  have r : (vTup [vInt a, vInt b]).Reads (.tuple [.int a, .int b]) := reads_tup ⟨reads_int a, reads_int b, trivial⟩
  have := CmpG.neD (C := C) r r rfl rfl
  rwa [show PyData.eqv (.tuple [.int a, .int b]) (.tuple [.int a, .int b]) = true from by simp [PyData.eqv, PyData.eqvAll]] at this

section
variable {C : Cx} {P : Params} {mg : Str → Option Value} (L : LawG C (K1 P) mg) {n : Nat}
include L

set_option maxHeartbeats 8000000 in

theorem run_mid (T1 : MakerOk C mg (hitTab (K1 P) 129 128 124)) (t : List Nat) (size : Int) (moves levels : List Int) (inward : Bool) (fin : List Nat) (h1 : 1 ≤ size) (h2 : size ≤ 100) (k : Nat) (R : RunOk size inward levels fin (k + 1) t) (b : Int) (s6 s7 s8 s9 s10 s11 : Slot) :
    ∃ s ∈ spans1 t size inward, Ex C (runFr P) (n + 5) (runSlots t size moves levels inward [s6, s7, s8, s9, s10, s11, .val (spansP (aheadOf (spans1 t size inward) b)), .val (prog2 P t (spans1 t size inward)), .val (resP (hit2 P) (srev (nxS (spans1 t size inward)) b)), .un, .un, .un, .un, .un]) ((forBody (stAt (bodyOf (fnAt (K1 P) 141)) 1)).drop 9)
      (.next (runSlots (newText t size inward s) size moves levels inward [.un, .un, .un, .un, .un, .un, .un, .un, .un, .un, .un, .un, .un, .un])) := by
  obtain ⟨hp, hc, hk, hsr, hall, hsp⟩ := R
  have htake := fun s (hs : s ∈ spans1 t size inward) a ha hl s6 s7 s8 s9 s10 s11 s13 s15 s16 s17 s18 s19 => run_take (n := n) L t size moves levels inward h1 h2 hp s (hsp s hs).1 a ha hl s6 s7 s8 s9 s10 s11 s13 s15 s16 s17 s18 s19
  rw [show (forBody (stAt (bodyOf (fnAt (K1 P) 141)) 1)).drop 10 = [_, _, _, _, _, _, _, _] from rfl] at htake
  rw [show (forBody (stAt (bodyOf (fnAt (K1 P) 141)) 1)).drop 9 = [_, _, _, _, _, _, _, _, _] from rfl]
  rw [show runFr P = ⟨Scope.mk _ _ _ _ _, _, _⟩ from rfl] at htake ⊢
  have H : HitOk C (n + 5) (hit2 P) := hit_ok L
  have hnd := run_nd
  have hlen := hp.len
  have hspl : (spans1 t size inward).length ≤ 6 := by lia
  cases hA : aheadOf (spans1 t size inward) b with
  | nil =>
    cases hL : (spans1 t size inward).getLast? with
    | none => rw [List.getLast?_eq_none_iff.mp hL] at hc; cases hc
    | some s =>
      have hs := List.mem_of_getLast? hL
      refine ⟨s, hs, ?_⟩
      have f1 : srev (nxS (spans1 t size inward)) b = none := by rw [hsr, hA]; rfl
      have f2 : srev (nxS (spans1 t size inward)) t.length = some s := by rw [hsr, hall, hL]
      rw [f1]
      refine Ex.cons (Ex1.iff (c := true) ((EvB.bool (EvAll.and_cons (EvB.cmp (Ev.name 14 rfl rfl) Ev.none CmpG.isNone) fun _ => EvAll.and_cons (EvB.cmp (Ev.name 12 rfl rfl) (EvL.ev (EvL.list .nil)) (CmpG.eqSpans (a := []) (b := []))) fun _ => EvAll.and_nil)).conv rfl) (fun _ => ?_) (fun h => nomatch h)) (htake s hs (spans1 t size inward) (by lia) hL s6 s7 s8 s9 s10 s11 (.val (prog2 P t (spans1 t size inward))) .un .un .un .un .un)
      refine Ex.cons (Ex1.assign (p := hit2 P s.1 s.2) 14 rfl hnd rfl (Ev.call (Ev.glob (L.fn (by kernel_rfl)) rfl) (L.keep (by kernel_rfl)) (.cons (Ev.name 13 rfl rfl) (.cons (Ev.name 0 rfl rfl) (.cons (Ev.call (Ev.glob (g_len L) rfl) (KeepOk.builtin _) (.cons (Ev.name 0 rfl rfl) .nil) (FnG.lenS (by rw [sizeLine_eq]; lia))) .nil))) (((rev2_fn (n := 0) L T1 t (spans1 t size inward) t.length).conv (by rw [f2]; rfl)).le (Nat.le_add_left _ _)))) ?_
      exact Ex.one (Ex1.assign 12 rfl hnd rfl (Ev.name 5 rfl rfl))
  | cons a0 ar =>
    cases hL : (a0 :: ar).getLast? with
    | none => exact absurd (List.getLast?_eq_none_iff.mp hL) (fun h => nomatch h)
    | some s =>
      have hs : s ∈ spans1 t size inward := by
        have : s ∈ aheadOf (spans1 t size inward) b := by rw [hA]; exact List.mem_of_getLast? hL
        exact (List.mem_filter.mp this).1
      have hal : (a0 :: ar).length ≤ 6 := by rw [← hA]; exact Nat.le_trans (List.length_filter_le _ _) hspl
      refine ⟨s, hs, ?_⟩
      have f1 : srev (nxS (spans1 t size inward)) b = some s := by rw [hsr, hA, hL]
      rw [f1]
      refine Ex.cons (Ex1.iff (c := false) (EvB.bool (EvAll.and_cons (EvB.cmp (Ev.name 14 rfl rfl) Ev.none (CmpG.isNone' (H.notNone s.1 s.2))) (b := false) (fun h => nomatch h))) (fun h => nomatch h) (fun _ => Ex.nil)) ?_
      exact htake s hs (a0 :: ar) (by lia) hL s6 s7 s8 s9 s10 s11 (.val (prog2 P t (spans1 t size inward))) .un .un .un .un .un

set_option maxHeartbeats 16000000 in

theorem run_step (T1 : MakerOk C mg (hitTab (K1 P) 129 128 124)) (T2 : MakerOk C mg (progTab (K1 P) 136 135 131)) (t : List Nat) (size : Int) (moves levels : List Int) (inward : Bool) (fin : List Nat) (h1 : 1 ≤ size) (h2 : size ≤ 100) (k : Nat) (R : RunOk size inward levels fin (k + 1) t) (m : Int) :
    ∃ s ∈ spans1 t size inward, Ex C (runFr P) (n + 5) (runSlots t size moves levels inward [.val (vInt m), .un, .un, .un, .un, .un, .un, .un, .un, .un, .un, .un, .un, .un]) (forBody (stAt (bodyOf (fnAt (K1 P) 141)) 1))
      (.next (runSlots (newText t size inward s) size moves levels inward [.un, .un, .un, .un, .un, .un, .un, .un, .un, .un, .un, .un, .un, .un])) := by
  obtain ⟨s, hs, hmid⟩ := run_mid (n := n) L T1 t size moves levels inward fin h1 h2 k R (boundOf t m) (.val (vInt m)) (.val (rowsP (splitOn 10 t))) (.val (vInt (lineOf1 m))) (.val (vInt (colOf1 t m))) (.val (vTup [vInt (lineOf1 m), vInt (colOf1 t m)])) (.val (vInt (boundOf t m)))
  refine ⟨s, hs, ?_⟩
  have hp := R.page
  have hc := R.count
  have hk := R.small
  rw [show (forBody (stAt (bodyOf (fnAt (K1 P) 141)) 1)).drop 9 = [_, _, _, _, _, _, _, _, _] from rfl] at hmid
  rw [show forBody (stAt (bodyOf (fnAt (K1 P) 141)) 1) = [_, _, _, _, _, _, _, _, _, _, _, _, _, _, _, _, _, _] from rfl]
  rw [show runFr P = ⟨Scope.mk _ _ _ _ _, _, _⟩ from rfl] at hmid ⊢
  have hnd := run_nd
  have hlen := hp.len
  have hst : t.length ≤ sizeLine := by rw [sizeLine_eq]; lia
  have htwo := hp.two
  have hl0 : 0 ≤ lineOf1 m - 1 ∧ lineOf1 m - 1 < 2 := by
    have q1 := Int.emod_nonneg m (b := 2) (by decide)
    have q2 := Int.emod_lt_of_pos m (b := 2) (by decide)
    unfold lineOf1; lia
  have hi : (lineOf1 m - 1).toNat < (splitOn 10 t).length := by rw [htwo]; lia
  have hrow : ((splitOn 10 t).map vS)[(lineOf1 m - 1).toNat]? = some (vS (rowAt (splitOn 10 t) (lineOf1 m - 1))) ∧ (rowAt (splitOn 10 t) (lineOf1 m - 1)).length ≤ 100 := by
    unfold rowAt
    rw [List.getElem?_map, List.getD_eq_getElem?_getD, List.getElem?_eq_getElem hi]
    exact ⟨rfl, hp.row _ (List.getElem_mem hi)⟩
  have hitr : SubG C (rowsP (splitOn 10 t)) (vInt (lineOf1 m - 1)) (vS (rowAt (splitOn 10 t) (lineOf1 m - 1))) := SubG.item hl0.1 (by lia) hrow.1
  have hrl := hrow.2
  have hlenr : FnG C (n + 5) (.builtin "len") [vS (rowAt (splitOn 10 t) (lineOf1 m - 1))] (vInt (rowAt (splitOn 10 t) (lineOf1 m - 1)).length) := FnG.lenS (by rw [sizeLine_eq]; lia)
  have hc0 : 0 ≤ colOf1 t m ∧ colOf1 t m ≤ 100 := by
    have q1 := Int.emod_nonneg (m / 2) (b := ((rowAt (splitOn 10 t) (lineOf1 m - 1)).length : Int) + 1) (by lia)
    have q2 := Int.emod_lt_of_pos (m / 2) (b := ((rowAt (splitOn 10 t) (lineOf1 m - 1)).length : Int) + 1) (by lia)
    unfold colOf1; lia
  have hszr : ((splitOn 10 t).map vS).length ≤ sizeLine := by rw [List.length_map, htwo, sizeLine_eq]; lia
  have hcl : (cut (splitOn 10 t) none (some (lineOf1 m - 1))).length ≤ 2 := htwo ▸ cut_length _ _ _
  have hhead : (headOf t m).length ≤ 3 ∧ ∀ r ∈ headOf t m, r.length ≤ 100 := by
    unfold headOf
    refine ⟨by rw [List.length_append, List.length_singleton]; lia, fun r hr => ?_⟩
    rcases List.mem_append.mp hr with q | q
    · exact hp.row r (cut_sub _ _ _ r q)
    · rw [List.mem_singleton.mp q]; exact Nat.le_trans (cut_length _ _ _) hrl
  have hs1 := sum_le hhead.2
  have hs2 := joinOn_length 10 (headOf t m)
  have hspl : (spans1 t size inward).length ≤ 6 := by lia
  have hahl : ∀ b, (aheadOf (spans1 t size inward) b).length ≤ 6 := fun b => Nat.le_trans (List.length_filter_le _ _) hspl
  have hd1 := dig_length (i := lineOf1 m) (by lia) (by lia)
  have hd2 := dig_length (i := colOf1 t m) (by lia) (by lia)
  refine Ex.cons (Ex1.assign (p := rowsP (splitOn 10 t)) 7 rfl hnd rfl (Ev.methStr (Ev.name 0 rfl rfl) (.cons (Ev.s [10] rfl) .nil) (FnG.split (by rw [sizeLine_eq]; lia)) PySem.F.slot_str_split PySem.F.type_str_split)) ?_
  refine Ex.cons (Ex1.assign (p := vInt (lineOf1 m)) 8 rfl hnd rfl (Ev.bin (Ev.bin (Ev.name 6 rfl rfl) Ev.int (BinG.mod (by decide))) Ev.int BinG.add)) ?_
  refine Ex.cons (Ex1.assign (p := vInt (colOf1 t m)) 9 rfl hnd rfl (Ev.bin (Ev.bin (Ev.name 6 rfl rfl) Ev.int (BinG.div (by decide) (by decide))) (Ev.bin (Ev.call (Ev.glob (g_len L) rfl) (KeepOk.builtin _) (.cons (Ev.sub (Ev.name 7 rfl rfl) (Ev.bin (Ev.name 8 rfl rfl) Ev.int BinG.sub) hitr) .nil) hlenr) Ev.int BinG.add) (BinG.mod (Int.lt_add_one_of_le (Int.natCast_nonneg _))))) ?_
  refine Ex.cons (Ex1.assign 10 rfl hnd rfl (Ev.call (Ev.glob (L.fn (by kernel_rfl)) rfl) (L.keep (by kernel_rfl)) (.cons (Ev.bin (Ev.bin (Ev.call (Ev.glob (g_str L) rfl) (KeepOk.type _) (.cons (Ev.name 8 rfl rfl) .nil) (FnG.str (by lia) (by lia))) (Ev.s [46] rfl) (BinG.addS (by rw [sizeLine_eq]; simp only [List.length_cons, List.length_nil]; lia))) (Ev.call (Ev.glob (g_str L) rfl) (KeepOk.type _) (.cons (Ev.name 9 rfl rfl) .nil) (FnG.str (by lia) (by lia))) (BinG.addS (by rw [sizeLine_eq, List.length_append]; simp only [List.length_cons, List.length_nil]; lia))) .nil)
    ((glc_fn (n := 0) L (lineOf1 m) (colOf1 t m) (by lia) (by lia) (by lia) (by lia)).le (Nat.le_add_left _ _)))) ?_
  refine Ex.cons (Ex1.iff (c := false) (EvB.cmp (Ev.name 10 rfl rfl) (Ev.tuple (.cons (Ev.name 8 rfl rfl) (.cons (Ev.name 9 rfl rfl) .nil))) CmpG.nePair) (fun h => nomatch h) (fun _ => Ex.nil)) ?_
  refine Ex.cons (Ex1.assign (p := vInt (boundOf t m)) 11 rfl hnd rfl (Ev.call (Ev.glob (g_len L) rfl) (KeepOk.builtin _) (.cons (Ev.methStr (Ev.s [10] rfl) (.cons ((EvL.ev (EvL.add (Ev.sub (Ev.name 7 rfl rfl) (Ev.slice .none (.some (Ev.bin (Ev.name 8 rfl rfl) Ev.int BinG.sub))) (SubG.cutL hszr)) (EvL.ev (EvL.list (.cons (Ev.sub (Ev.sub (Ev.name 7 rfl rfl) (Ev.bin (Ev.name 8 rfl rfl) Ev.int BinG.sub) hitr) (Ev.slice .none (.some (Ev.name 9 rfl rfl))) (SubG.cutS (by rw [sizeLine_eq]; lia))) .nil))) ?_)).conv (q := vLst ((headOf t m).map vS)) ?_) .nil) (FnG.join ?_) PySem.F.slot_str_join PySem.F.type_str_join) .nil) (FnG.lenS ?_))) ?_
  · rw [cut_map, List.length_map, sizeLine_eq]; simp only [List.length_cons, List.length_nil]; lia
  · unfold headOf; rw [cut_map, List.map_append]; rfl
  · rw [sizeLine_eq]; lia
  · rw [sizeLine_eq]; lia
  refine Ex.cons (Ex1.assignComp 12 ["span"] [11] [vInt (boundOf t m)] rfl hnd rfl (by kernel_rfl) ⟨rfl, trivial⟩ (Ev.name 5 rfl rfl) IterG.list
    (CTurns.sel spanP spanP (fun o => [(match o with | some s => .val (spanP s) | none => .un), .val (vInt (boundOf t m))]) (fun s => decide (s.2 ≤ boundOf t m)) (fun o k => Asg.name 0 rfl (by decide) rfl) _ none (fun s hs => ?_) (fun s hs _ => Ev.name 0 rfl rfl)) ?_) (Ex.freeze 12 rfl rfl ?_)
  · exact EvIfs.one (EvB.cmp (Ev.sub (Ev.name 0 rfl rfl) Ev.int (SubG.tup (by decide) (by decide) rfl)) (Ev.name 1 rfl rfl) CmpG.le)
  · rw [List.length_map, sizeLine_eq]; have := hahl (boundOf t m); unfold aheadOf at this; lia
  refine Ex.cons (Ex1.assign 13 rfl hnd rfl (Ev.call (Ev.glob (L.fn (by kernel_rfl)) rfl) (L.keep (by kernel_rfl)) (.cons (Ev.name 0 rfl rfl) (.cons (Ev.name 5 rfl rfl) .nil)) ((prog_fn (n := 0) L T2 t (spans1 t size inward)).le (Nat.le_add_left _ _)))) ?_
  exact Ex.cons (Ex1.assign (p := resP (hit2 P) (srev (nxS (spans1 t size inward)) (boundOf t m))) 14 rfl hnd rfl (Ev.call (Ev.glob (L.fn (by kernel_rfl)) rfl) (L.keep (by kernel_rfl)) (.cons (Ev.name 13 rfl rfl) (.cons (Ev.name 0 rfl rfl) (.cons (Ev.name 11 rfl rfl) .nil))) ((rev2_fn (n := 0) L T1 t (spans1 t size inward) (boundOf t m)).le (Nat.le_add_left _ _)))) hmid

end
end Mine

set_option tactic.hygienic false
set_option maxRecDepth 10000
namespace Mine
open PySem PySem.W PyProof.Rows

theorem RunOk.fin {size : Int} {inward : Bool} {levels : List Int} {fin : List Nat} : ∀ {k : Nat} {t : List Nat}, RunOk size inward levels fin k t → PageOk fin ∧ spans1 fin size inward = []
  | 0, _, h => h.2.2 ▸ ⟨h.1, h.2.1⟩
  | k + 1, t, ⟨_, hc, _, _, _, hs⟩ => by
    cases e : spans1 t size inward with
    | nil => rw [e] at hc; cases hc
    | cons s r => exact RunOk.fin (hs s (by rw [e]; exact .head _)).2

theorem bind_5 {fd : FuncData} {x y z u w : Str} (h : ∀ a b c d e, bindArgs fd ⟨[a, b, c, d, e], []⟩ = pure [(x, a), (y, b), (z, c), (u, d), (w, e)]) : ∀ vs : List Value, vs.length = [x, y, z, u, w].length → bindArgs fd ⟨vs, []⟩ = pure ([x, y, z, u, w].zip vs) := fun vs e => by
  obtain ⟨a, r1, rfl, e1⟩ := len_cons e
  obtain ⟨b, r2, rfl, e2⟩ := len_cons e1
  obtain ⟨c, r3, rfl, e3⟩ := len_cons e2
  obtain ⟨d, r4, rfl, e4⟩ := len_cons e3
  obtain ⟨f, r5, rfl, e5⟩ := len_cons e4
  cases List.length_eq_zero_iff.mp e5
  exact h a b c d f
section
variable {C : Cx} {P : Params} {mg : Str → Option Value} (L : LawG C (K1 P) mg) {n : Nat}
include L

noncomputable abbrev unRun : List Slot := [.un, .un, .un, .un, .un, .un, .un, .un, .un, .un, .un, .un, .un, .un]
theorem run_turns (T1 : MakerOk C mg (hitTab (K1 P) 129 128 124)) (T2 : MakerOk C mg (progTab (K1 P) 136 135 131)) (size : Int) (moves levels : List Int) (inward : Bool) (fin : List Nat) (h1 : 1 ≤ size) (h2 : size ≤ 100) : ∀ (ms : List Int) (t : List Nat), RunOk size inward levels fin ms.length t →
    Turns C (runFr P) (n + 5) (forTgt (stAt (bodyOf (fnAt (K1 P) 141)) 1)) (forBody (stAt (bodyOf (fnAt (K1 P) 141)) 1)) (runSlots t size moves levels inward unRun) (ms.map vInt) (.next (runSlots fin size moves levels inward unRun))
  | [], t, R => by rw [show t = fin from R.2.2]; exact .nil
  | m :: ms, t, R => by
    obtain ⟨s, hs, h⟩ := run_step (n := n) L T1 T2 t size moves levels inward fin h1 h2 ms.length R m
    obtain ⟨_, _, _, _, _, hsp⟩ := R
    exact .next (Asg.name 6 rfl run_nd rfl) h (run_turns T1 T2 size moves levels inward fin h1 h2 ms _ (hsp s hs).2)

set_option maxHeartbeats 8000000 in
theorem lawRun_fn (T1 : MakerOk C mg (hitTab (K1 P) 129 128 124)) (T2 : MakerOk C mg (progTab (K1 P) 136 135 131)) (t : List Nat) (size : Int) (moves levels : List Int) (inward : Bool) (fin : List Nat) (h1 : 1 ≤ size) (h2 : size ≤ 100) (hm : moves.length = 6) (k : Nat) (R : RunOk size inward levels fin k t) :
    FnG C (n + 6) (.ref 141) [vS t, vInt size, intsP moves, intsP levels, vBool inward] (vS fin) := by
  refine FnG.top (n := n + 5) (L.def_ (xs := ["text", "size", "moves", "levels", "inward"]) (names := runNames) (cells := ["bound"]) (by kernel_rfl) (by kernel_rfl) (bind_5 fun a b c d e => by kernel_rfl)) rfl (o := .ret (vS fin)) ?_ (.ret _)
  have ht := fun (ms : List Int) R => run_turns (n := n) L T1 T2 size moves levels inward fin h1 h2 ms t R
  rw [show stAt (bodyOf (fnAt (K1 P) 141)) 1 = .For _ _ _ _ _ from rfl, show runFr P = ⟨Scope.mk _ _ _ _ _, _, _⟩ from rfl] at ht
  dsimp only [forTgt, forBody] at ht
  rw [show fnAt (K1 P) 141 = FuncData.mk _ _ _ _ _ _ _ _ _ _ _ _ _ _ _ from rfl]
  dsimp only [bodyOf, startVals, List.map, List.append, List.replicate, List.length]
  have hnd := run_nd
  have hp := R.page
  have hk := R.small
  have hc := R.count
  obtain ⟨fp, fs⟩ := R.fin
  have fl := fp.len
  refine Ex.cons (Ex1.assign (p := spansP (spans1 t size inward)) 5 rfl hnd rfl (Ev.call (Ev.glob (L.fn (by kernel_rfl)) rfl) (L.keep (by kernel_rfl)) (.cons (Ev.name 0 rfl rfl) (.cons (Ev.name 1 rfl rfl) (.cons (Ev.name 4 rfl rfl) .nil))) ((spans_fn (n := 0) L _ size inward h1 h2 hp).le (Nat.le_add_left _ _)))) ?_
  have hlen : FnG C (n + 5) (.builtin "len") [spansP (spans1 t size inward)] (vInt k) := (FnG.lenL (by rw [List.length_map, hc, sizeLine_eq]; lia)).conv (by rw [List.length_map, hc])
  have hms : (cut moves none (some (k : Int))).length = k := by
    rw [cut_take _ (Int.natCast_nonneg k), List.length_take, hm, Int.toNat_natCast]; lia
  refine Ex.cons (Ex1.for_ (p := intsP (cut moves none (some (k : Int)))) ((Ev.sub (Ev.name 2 rfl rfl) (Ev.slice .none (.some (Ev.call (Ev.glob (g_len L) rfl) (KeepOk.builtin _) (.cons (Ev.name 5 rfl rfl) .nil) hlen))) (SubG.cutL (by rw [List.length_map, hm, sizeLine_eq]; decide))).conv (by rw [cut_map])) IterG.list (ht (cut moves none (some (k : Int))) (by rw [hms]; exact R))) ?_
  refine Ex.cons (Ex1.iff (c := false) (EvB.cmp (Ev.call (Ev.glob (L.fn (by kernel_rfl)) rfl) (L.keep (by kernel_rfl)) (.cons (Ev.call (Ev.glob (L.fn (by kernel_rfl)) rfl) (L.keep (by kernel_rfl)) (.cons (Ev.name 0 rfl rfl) (.cons (Ev.name 5 rfl rfl) .nil)) ((prog_fn (n := 0) L T2 fin (spans1 fin size inward)).le (Nat.le_add_left _ _))) (.cons (Ev.name 0 rfl rfl) (.cons (Ev.call (Ev.glob (g_len L) rfl) (KeepOk.builtin _) (.cons (Ev.name 0 rfl rfl) .nil) (FnG.lenS (by rw [sizeLine_eq]; lia))) .nil))) (((rev2_fn (n := 0) L T1 fin (spans1 fin size inward) fin.length).conv (r' := vNone) (by rw [fs]; rfl)).le (Nat.le_add_left _ _))) Ev.none CmpG.isNotNone) (fun h => nomatch h) (fun _ => Ex.nil)) ?_
  exact Ex.one (Ex1.ret (Ev.name 0 rfl rfl))

end
end Mine

set_option tactic.hygienic false
set_option maxRecDepth 10000
namespace Mine
open PySem PySem.W PyProof.Rows

section
variable {C : Cx} {P : Params} {mg : Str → Option Value} (L : LawG C (K1 P) mg) {n : Nat}
include L

set_option maxHeartbeats 4000000 in
theorem lead_def : DefOk C 108 (fnAt (K1 P) 108) (bodyOf (fnAt (K1 P) 108)) ["value"] ⟨(fnAt (K1 P) 108).scope, ["value", "parts"], []⟩ :=
  L.def_ (by kernel_rfl) (by kernel_rfl) (bind_1 fun a => by kernel_rfl)

set_option maxHeartbeats 4000000 in
theorem lead_ex (v : Int) : Ex C ⟨(fnAt (K1 P) 108).scope, ["value", "parts"], []⟩ n [.val (vInt v), .un] (bodyOf (fnAt (K1 P) 108)) (.ret (vS (lead1 v))) := by
  rw [show fnAt (K1 P) 108 = FuncData.mk _ _ _ _ _ _ _ _ _ _ _ _ _ _ _ from rfl]
  dsimp only [bodyOf]
  have part_at : ∀ k : Int, 0 ≤ k → k < 4 → [vS [9], vS [32], vS [32, 9], vS []][k.toNat]? = some (vS (part1 k)) := by
    intro k h0 h1
    have : k = 0 ∨ k = 1 ∨ k = 2 ∨ k = 3 := by lia
    rcases this with rfl | rfl | rfl | rfl <;> rfl
  have item : ∀ k : Int, SubG C (vLst [vS [9], vS [32], vS [32, 9], vS []]) (vInt (k % 4)) (vS (part1 (k % 4))) := fun k =>
    SubG.item (by lia) (by lia) (part_at _ (by lia) (by lia))
  refine Ex.cons (Ex1.assign 1 rfl (by decide) rfl (EvL.ev (EvL.list (.cons (Ev.s [9] rfl) (.cons (Ev.s [32] rfl) (.cons (Ev.s [32, 9] rfl) (.cons (Ev.s [] rfl) .nil))))))) ?_
  refine Ex.one (Ex1.ret ?_)
  have h4 : (0 : Int) < 4 := by decide
  exact Ev.bin (Ev.bin (Ev.sub (Ev.name 1 rfl rfl) (Ev.bin (Ev.name 0 rfl rfl) Ev.int (BinG.mod h4)) (item _))
    (Ev.sub (Ev.name 1 rfl rfl) (Ev.bin (Ev.bin (Ev.name 0 rfl rfl) Ev.int (BinG.div h4 (by decide))) Ev.int (BinG.mod h4)) (item _)) (BinG.addS (by have := part1_len (v % 4); have := part1_len (v / 4 % 4); rw [sizeLine_eq]; lia)))
    (Ev.sub (Ev.name 1 rfl rfl) (Ev.bin (Ev.bin (Ev.name 0 rfl rfl) Ev.int (BinG.div (by decide) (by decide))) Ev.int (BinG.mod h4)) (item _))
    (BinG.addS (by have := part1_len (v % 4); have := part1_len (v / 4 % 4); have := part1_len (v / 16 % 4); rw [List.length_append, sizeLine_eq]; lia))

theorem lead_fn (v : Int) : FnG C (n + 1) (.ref 108) [vInt v] (vS (lead1 v)) := FnG.top (lead_def L) rfl (lead_ex L v) (.ret _)

end
end Mine

set_option tactic.hygienic false
set_option maxRecDepth 10000
namespace Mine
open PySem PySem.W PyProof.Rows

theorem CmpG.notInS {C : Cx} {l : List Nat} : CmpG C .NotIn (vS [32, 9]) (vS l) (!mixed l) := fun A S s x y I _ hx hy => by
  obtain ⟨t, rfl⟩ := str_of hx; obtain ⟨u, rfl⟩ := str_of hy
  exact PySem.P.notIn_str ⟨S, .refl I, rfl⟩
theorem CmpG.neB {C : Cx} {a b : Bool} (h : a = b) : CmpG C .NotEq (vBool a) (vBool b) false := by
  subst h
  have := CmpG.neD (C := C) (reads_bool a) (reads_bool a) (by cases a <;> rfl) (by cases a <;> rfl)
  rwa [show PyData.eqv (.bool a) (.bool a) = true from by simp [PyData.eqv]] at this

noncomputable def tripD (s : Int × Int × Int) : PyData := .tuple [.int s.1, .int s.2.1, .int s.2.2]
theorem CmpG.neTrips {C : Cx} {a : List (Int × Int × Int)} : CmpG C .NotEq (vLst (a.map tripP)) (vLst (a.map tripP)) false := by
  have h1 : ∀ a : List (Int × Int × Int), PyData.canLayAll0 (a.map tripD) = true := fun a => by
    induction a with
    | nil => rfl
    | cons x q ih => simp [PyData.canLayAll0, PyData.canLay0, tripD, ih]
  have h2 : ∀ a : List (Int × Int × Int), PyData.depthAll (a.map tripD) ≤ 3 := fun a => by
    induction a with
    | nil => simp [PyData.depthAll]
    | cons x q ih => simp [PyData.depthAll, PyData.depth, tripD]; lia
  have h3 : ∀ a : List (Int × Int × Int), PyData.eqvAll (a.map tripD) (a.map tripD) = true := fun a => by
    induction a with
    | nil => rfl
    | cons x q ih =>
      show (PyData.eqv (tripD x) (tripD x) && PyData.eqvAll (q.map tripD) (q.map tripD)) = true
      rw [ih]; simp [PyData.eqv, PyData.eqvAll, tripD]
  have sh : SeqAt.shaped (.list (a.map tripD)) = true := by
    refine Bool.and_eq_true_iff.mpr ⟨?_, decide_eq_true ?_⟩
    · simp only [PyData.canLay0, h1 a]
    · have := h2 a; simp only [PyData.depth]; lia
  have r : (vLst (a.map tripP)).Reads (.list (a.map tripD)) := reads_lst (readsL_map tripP tripD (fun s => reads_tup ⟨reads_int _, reads_int _, reads_int _, trivial⟩) a)
  have := CmpG.neD (C := C) r r sh sh
  rwa [show PyData.eqv (.list (a.map tripD)) (.list (a.map tripD)) = true from h3 a] at this
theorem CmpG.neNorm {C : Cx} {w : WsS} {q : List Int} {b : Int} (h1 : w.count = q) (h2 : w.b = b) : CmpG C .NotEq (normP w) (vTup [vTup (q.map vInt), vInt b]) false := by
  subst h1 h2
  have := CmpG.neD (C := C) (reads_norm w) (reads_norm w) (shaped_norm w) (shaped_norm w)
  have e : PyData.eqv (.tuple [.tuple (w.count.map .int), .int w.b]) (.tuple [.tuple (w.count.map .int), .int w.b]) = true := by
    have := eqvAll_ints w.count w.count
    rw [decide_eq_true rfl] at this
    show (PyData.eqvAll (w.count.map .int) (w.count.map .int) && (PyData.eqv (.int w.b) (.int w.b) && true)) = true
    rw [this, eqv_int, decide_eq_true rfl]; rfl
  rwa [e] at this

section
variable {C : Cx} {P : Params} {mg : Str → Option Value} (L : LawG C (K1 P) mg) {n : Nat}
include L

noncomputable abbrev lawNames : List Str := ["script", "values", "size", "backwards", "firsts", "lasts", "leads", "tails", "levels", "level", "tail", "plain", "short", "old", "new", "first", "last", "apart"]
omit L in
theorem law_nd : lawNames.Nodup := by decide
noncomputable abbrev lawFr (P : Params) : Shape := ⟨(fnAt (K1 P) 151).scope, lawNames, ["script", "size"]⟩
noncomputable abbrev rowSlots (size : Int) (s0 s1 s3 s4 s5 s6 s7 s8 s11 s12 a b c d e f g : Slot) : List Slot := [s0, s1, .val (vInt size), s3, s4, s5, s6, s7, s8, a, b, s11, s12, c, d, e, f, g]

set_option maxHeartbeats 8000000 in

theorem law_row (size : Int) (lead tail : List Nat) (c : Int) (h1 : 2 ≤ size) (h2 : size ≤ 4) (Q : QuadOk size lead tail c) (s0 s1 s3 s4 s5 s6 s7 s8 s11 s12 : Slot) :
    Ex C (lawFr P) (n + 6) (rowSlots size s0 s1 s3 s4 s5 s6 s7 s8 s11 s12 (.val (vInt c)) (.val (vS tail)) (.val (vS lead)) (.val (vS (shortOf size c))) .un .un .un) (forBody (stAt (bodyOf (fnAt (K1 P) 151)) 12))
      (.next (rowSlots size s0 s1 s3 s4 s5 s6 s7 s8 s11 s12 .un .un .un .un .un .un .un)) := by
  rw [show forBody (stAt (bodyOf (fnAt (K1 P) 151)) 12) = [_, _, _, _, _, _] from rfl]
  rw [show lawFr P = ⟨Scope.mk _ _ _ _ _, _, _⟩ from rfl]
  have hnd := law_nd
  have c0 := Q.c0
  have c1 := Q.c1
  have ll := Q.ll
  have tl := Q.tl
  have d1 : c / size ≤ c := Int.ediv_le_self _ c0
  have d0 : 0 ≤ c / size := Int.ediv_nonneg c0 (by lia)
  have m1 : c % size < size := Int.emod_lt_of_pos _ (by lia)
  have m0 : 0 ≤ c % size := Int.emod_nonneg _ (by lia)
  have sl : (shortOf size c).length ≤ 16 := by unfold shortOf; rw [List.length_append, List.length_replicate, List.length_replicate]; lia
  have l1 : (lead ++ tail).length ≤ 1000 := by rw [List.length_append]; lia
  have l2 : (shortOf size c ++ tail).length ≤ 1000 := by rw [List.length_append]; lia
  refine Ex.cons (Ex1.assign (p := vWs (lead ++ tail)) 15 rfl hnd rfl (Ev.call (Ev.glob (g_ws L) rfl) (KeepOk.cls L.X (by kernel_rfl)) (.cons (Ev.bin (Ev.name 13 rfl rfl) (Ev.name 10 rfl rfl) (BinG.addS (by rw [sizeLine_eq]; lia))) .nil) ((make_ws (n := 0) L _ l1).le (by lia)))) ?_
  refine Ex.cons (Ex1.assign (p := vWs (shortOf size c ++ tail)) 16 rfl hnd rfl (Ev.call (Ev.glob (g_ws L) rfl) (KeepOk.cls L.X (by kernel_rfl)) (.cons (Ev.bin (Ev.name 14 rfl rfl) (Ev.name 10 rfl rfl) (BinG.addS (by rw [sizeLine_eq]; lia))) .nil) ((make_ws (n := 0) L _ l2).le (by lia)))) ?_
  refine Ex.cons (Ex1.iff (c := false) (EvB.cmp (ws_norm L (Ev.name 16 rfl rfl) (fun _ => rfl)) (Ev.tuple (.cons (Ev.ifexp (p := vTup ((tabsOf size c).map vInt)) (EvB.cmp (Ev.name 9 rfl rfl) (Ev.name 2 rfl rfl) CmpG.ge) (fun hc => (Ev.tuple (.cons (Ev.bin (Ev.name 9 rfl rfl) (Ev.name 2 rfl rfl) (BinG.div (by lia) (by lia))) .nil)).conv (by rw [show tabsOf size c = _ from if_pos (of_decide_eq_true hc)]; rfl)) (fun hc => (Ev.tuple .nil).conv (by rw [show tabsOf size c = _ from if_neg (of_decide_eq_false hc)]; rfl))) (.cons (Ev.bin (Ev.name 9 rfl rfl) (Ev.name 2 rfl rfl) (BinG.mod (by lia))) .nil))) (CmpG.neNorm Q.count Q.b)) (fun h => nomatch h) (fun _ => Ex.nil)) ?_
  have hs1 : decide (((wsOf (shortOf size c ++ tail)).count.length : Int) ≤ 1) = true := by
    rw [Q.count]
    unfold tabsOf
    split <;> rfl
  refine Ex.cons (Ex1.iff (c := false) ((EvB.bool (EvAll.or_cons (EvB.not (EvB.value (ws_simple L (Ev.name 16 rfl rfl) (fun _ => rfl)) (TruG.bool _))) fun _ => EvAll.or_cons (EvB.cmp (ws_simple L (Ev.name 15 rfl rfl) (fun _ => rfl)) (Ev.cmp (Ev.s [32, 9] rfl) (Ev.name 13 rfl rfl) CmpG.notInS) (CmpG.neB Q.simple)) fun _ => EvAll.or_nil)).conv (by rw [hs1]; rfl)) (fun h => nomatch h) (fun _ => Ex.nil)) ?_
  refine Ex.cons (Ex1.assign (p := vLst ((apartOf lead (shortOf size c)).map tripP)) 17 rfl hnd rfl (Ev.call (Ev.glob (L.fn (by kernel_rfl)) rfl) (L.keep (by kernel_rfl)) (.cons (Ev.name 13 rfl rfl) (.cons (Ev.name 14 rfl rfl) .nil)) ((apart_fn (n := 0) L lead (shortOf size c) (by lia) (by lia)).le (by lia)))) ?_
  have hwit : ∀ {fr : Shape} {vals : List Slot} {x y : Expr} {ap cp : Pos} {l l' : List Nat} (_ : l.length ≤ 1000) (_ : l'.length ≤ 1000), Ev C fr (n + 6) vals x (vWs l) → EvArgs C fr (n + 6) vals [y] [vWs l'] → (∀ env, attributeBase x "not_equal_witness" env (eval x env) = eval x env) → (ap.endLine == cp.line) = true →
      Ev C fr (n + 6) vals (.Call (.Attribute x "not_equal_witness" ap) [y] [] cp) (vLst ((witOf (wsOf l) (wsOf l')).map tripP)) := fun hl hl' h ha hb hp =>
    Ev.methObj h L.X (by kernel_rfl) (by kernel_rfl) (by kernel_rfl) rfl (L.keep (by kernel_rfl)) ha ((witness_fn (n := 0) L _ _ _ _ (wsOf_small hl) (wsOf_small hl')).le (by lia)) hb (by simp) hp
  have hal : (apartOf lead (shortOf size c)).length ≤ sizeLine := by
    have hsp := splitOn_length 9 (lead ++ [9] ++ shortOf size c)
    have hne : ((splitOn 9 (lead ++ [9] ++ shortOf size c)).map fun run => (run.length : Int)) ≠ [] := fun h => splitOn_ne _ _ (List.map_eq_nil_iff.mp h)
    obtain ⟨m1, _⟩ := maxL_mem hne
    obtain ⟨r, hr, e⟩ := List.mem_map.mp m1
    have h3 := splitOn_part 9 _ r hr
    have h4 : (lead ++ [9] ++ shortOf size c).length ≤ 30 := by simp only [List.length_append, List.length_singleton]; lia
    have h5 := rangeL_length' 1 (lastRun lead (shortOf size c) + 1) (by decide)
    have h6 := List.length_filter_le (fun p : Int × Int × Int => decide (p.2.1 ≠ p.2.2)) ((rangeL 1 (lastRun lead (shortOf size c) + 1) 1).map fun size' => (size', colWalk size' lead, colWalk size' (shortOf size c)))
    rw [List.length_map] at h6
    have h7 : lastRun lead (shortOf size c) ≤ 31 := by unfold lastRun; lia
    unfold apartOf
    rw [sizeLine_eq]
    lia
  refine Ex.forgetOut (Ex.one (Ex1.iff (c := false) ((EvB.bool (EvAll.or_cons (EvB.cmp (hwit l1 l2 (Ev.name 15 rfl rfl) (.cons (Ev.name 16 rfl rfl) .nil) (fun _ => rfl) rfl) (Ev.name 17 rfl rfl) (by rw [Q.wit1]; exact CmpG.neTrips)) fun _ => EvAll.or_cons (EvB.cmp (hwit l2 l1 (Ev.name 16 rfl rfl) (.cons (Ev.name 15 rfl rfl) .nil) (fun _ => rfl) rfl) (EvL.ev (EvL.compOf (l := ((apartOf lead (shortOf size c)).map swapT).map tripP) ["at", "one", "two"] [] [] (by kernel_rfl) trivial (Ev.name 17 rfl rfl) IterG.list ?_ ?_)) (by rw [Q.wit2]; exact CmpG.neTrips)) fun _ => EvAll.or_nil)).conv rfl) (fun h => nomatch h) (fun _ => Ex.nil))) ?_
  · rw [List.map_map]
    refine CTurns.map tripP (tripP ∘ swapT) (fun o => [(match o with | some p => .val (vInt p.1) | none => .un), (match o with | some p => .val (vInt p.2.1) | none => .un), (match o with | some p => .val (vInt p.2.2) | none => .un)]) (fun o p => Asg.tuple (Names.cons 0 rfl rfl (Names.cons 1 rfl rfl (Names.cons 2 rfl rfl Names.nil))) (by decide)) _ none (fun p _ => ?_)
    exact Ev.tuple (.cons (Ev.name 0 rfl rfl) (.cons (Ev.name 2 rfl rfl) (.cons (Ev.name 1 rfl rfl) .nil)))
  · rw [List.length_map, List.length_map]; exact hal
  · exact ⟨.inl rfl, .inl rfl, .inl rfl, .inl rfl, .inl rfl, .inl rfl, .inl rfl, .inl rfl, .inl rfl, .inr rfl, .inr rfl, .inl rfl, .inl rfl, .inr rfl, .inr rfl, .inr rfl, .inr rfl, .inr rfl, trivial⟩

end
end Mine

set_option tactic.hygienic false
set_option maxRecDepth 10000
namespace Mine
open PySem PySem.W PyProof.Rows


noncomputable def Sorted : Int → List (Int × Int) → Prop
  | _, [] => True
  | b, s :: r => b ≤ s.1 ∧ s.1 < s.2 ∧ Sorted s.2 r
theorem nxS_sorted {b : Int} {s : Int × Int} {r : List (Int × Int)} (h : Sorted b (s :: r)) : nxS (s :: r) b = some s := by
  obtain ⟨h1, h2, _⟩ := h
  unfold nxS
  rw [if_pos (by lia), show max s.1 b = s.1 by lia]
theorem nxS_skip : ∀ {pre r : List (Int × Int)} {b : Int}, (∀ x ∈ pre, x.2 ≤ b) → nxS (pre ++ r) b = nxS r b
  | [], _, _, _ => rfl
  | x :: pre, r, b, h => by
    rw [List.cons_append, nxS, if_neg (by have := h x (.head _); lia)]
    exact nxS_skip fun y hy => h y (.tail _ hy)

theorem Sorted.above : ∀ {b : Int} {l : List (Int × Int)}, Sorted b l → ∀ x ∈ l, b ≤ x.1 ∧ x.1 < x.2
  | _, _ :: _, ⟨h1, h2, _⟩, _, .head _ => ⟨h1, h2⟩
  | _, _ :: _, ⟨h1, h2, h3⟩, x, .tail _ hx => by have := h3.above x hx; lia

theorem ahead_none {b col : Int} {l : List (Int × Int)} (h : Sorted b l) (hc : col < b) : aheadOf l col = [] := by
  unfold aheadOf
  rw [List.filter_eq_nil_iff]
  intro x hx
  have := h.above x hx
  simp; lia

theorem srevGo_sorted {sp : List (Int × Int)} {col : Int} : ∀ (r pre : List (Int × Int)) (s : Int × Int) (b : Int) (k : Nat) (f : Option (Int × Int)), sp = pre ++ s :: r → Sorted b (s :: r) → (∀ x ∈ pre, x.2 ≤ s.1) → 2 * (col + 1 - s.2) + 1 < k →
    srevGo (nxS sp) col k f s = match (aheadOf (s :: r) col).getLast? with | some m => some m | none => f
  | r, pre, s, b, k, f, e, hs, hp, hk => by
    obtain ⟨h1, h2, h3⟩ := id hs
    by_cases hc : s.2 ≤ col
    · obtain ⟨k, rfl⟩ : ∃ k', k = k' + 1 := ⟨k - 1, by lia⟩
      rw [srevGo, if_pos ⟨by lia, hc⟩, if_neg (by lia)]
      have hn : nxS sp s.2 = nxS r s.2 := by
        rw [e, show pre ++ s :: r = (pre ++ [s]) ++ r by simp]
        exact nxS_skip fun x hx => by
          rcases List.mem_append.mp hx with hx | hx
          · have := hp x hx; lia
          · rw [List.mem_singleton.mp hx]; lia
      rw [hn]
      have ha : aheadOf (s :: r) col = s :: aheadOf r col := List.filter_cons_of_pos (by simpa using hc)
      rw [ha]
      cases r with
      | nil => rfl
      | cons s' r =>
        rw [nxS_sorted h3]
        dsimp only
        have ih := srevGo_sorted (sp := sp) (col := col) r (pre ++ [s]) s' s.2 k (some s) (by rw [e]; simp) h3 (fun x hx => by
          rcases List.mem_append.mp hx with hx | hx
          · have := hp x hx; have := h3.1; lia
          · rw [List.mem_singleton.mp hx]; exact h3.1) (by have := h3.1; have := h3.2.1; lia)
        rw [ih]
        cases hq : aheadOf (s' :: r) col with
        | nil => rfl
        | cons y t => rw [List.getLast?_cons_cons]; cases hz : (y :: t).getLast? with
          | none => simp at hz
          | some z => rfl
    · have ha : aheadOf (s :: r) col = [] := by
        unfold aheadOf
        rw [List.filter_cons_of_neg (by simpa using hc)]
        exact ahead_none h3 (by lia)
      rw [ha]
      cases k with
      | zero => rfl
      | succ k => rw [srevGo, if_neg (by lia)]; rfl

theorem srev_sorted {sp : List (Int × Int)} (hs : Sorted 0 sp) (col : Int) : srev (nxS sp) col = (aheadOf sp col).getLast? := by
  unfold srev
  cases sp with
  | nil => rfl
  | cons s r =>
    rw [nxS_sorted hs]
    dsimp only
    have h := hs.1
    have h' := hs.2.1
    have q := srevGo_sorted (sp := s :: r) (col := col) r [] s 0 (2 * col + 5).toNat none rfl hs (fun _ h => nomatch h) (by lia)
    rw [q]
    cases (aheadOf (s :: r) col).getLast? <;> rfl
end Mine

set_option tactic.hygienic false
set_option maxRecDepth 10000
namespace Mine
open PySem PySem.W PyProof.Rows


noncomputable def loc (l : List Nat) (size : Int) (inward : Bool) : List (Int × Int) := (rowSpans l size inward 0 []).1
noncomputable def wideL (l : List Nat) (size : Int) (s : Int × Int) : Int := levelOf (wsOf (cut l none (some s.2))) size - levelOf (wsOf (cut l none (some s.1))) size
noncomputable def newLead (l : List Nat) (size : Int) (inward : Bool) (s : Int × Int) : List Nat :=
  cut l none (some s.1) ++ (if inward = true then [9] else List.replicate (wideL l size s).toNat 32) ++ cut l (some s.2) none
noncomputable def sortedB : Int → List (Int × Int) → Int → Bool
  | b, [], e => decide (b ≤ e)
  | b, s :: r, e => decide (b ≤ s.1) && decide (s.1 < s.2) && sortedB s.2 r e
noncomputable def leadB (l : List Nat) (size c : Int) : Bool := l.all (fun x => x == 32 || x == 9) && decide (levelOf (wsOf l) size = c) && decide (l.length ≤ 20)
noncomputable def rowGood (size : Int) (inward : Bool) (c : Int) (fin : List Nat) : Nat → List Nat → Bool
  | 0, l => leadB l size c && (decide (loc l size inward = []) && decide (l = fin))
  | k + 1, l => leadB l size c && (decide ((loc l size inward).length = k + 1) && (sortedB 0 (loc l size inward) l.length &&
      (loc l size inward).all fun s => (inward || (decide (0 ≤ wideL l size s) && decide (wideL l size s ≤ 20))) && rowGood size inward c fin k (newLead l size inward s)))

theorem rowGood.lead {size c : Int} {inward : Bool} {fin : List Nat} : ∀ {k : Nat} {l : List Nat}, rowGood size inward c fin k l = true → leadB l size c = true
  | 0, _, h => (Bool.and_eq_true_iff.mp h).1
  | _ + 1, _, h => (Bool.and_eq_true_iff.mp h).1


structure TailOk (t : List Nat) : Prop where
  no : 10 ∉ t
  len : t.length ≤ 4
  hd : ∀ x r, t = x :: r → x ≠ 32 ∧ x ≠ 9

theorem wsScan_tail {t : List Nat} (h : TailOk t) (st : WsS) : wsScan t st = st := by
  cases t with
  | nil => rfl
  | cons x r =>
    obtain ⟨h1, h2⟩ := h.hd x r rfl
    rw [wsScan, if_neg h1, if_neg h2]
theorem wsScan_app {t : List Nat} : ∀ (l : List Nat) (st : WsS), (∀ x ∈ l, x = 32 ∨ x = 9) → wsScan (l ++ t) st = wsScan t (wsScan l st)
  | [], _, _ => rfl
  | x :: l, st, h => by
    rw [List.cons_append, wsScan, wsScan]
    rcases h x (.head _) with rfl | rfl
    · rw [if_pos rfl, if_pos rfl]; exact wsScan_app l _ fun y hy => h y (.tail _ hy)
    · rw [if_neg (by decide), if_pos rfl, if_neg (by decide), if_pos rfl]; exact wsScan_app l _ fun y hy => h y (.tail _ hy)
theorem wsScan_n : ∀ (l : List Nat) (st : WsS), (∀ x ∈ l, x = 32 ∨ x = 9) → (wsScan l st).n = st.n + l.length
  | [], st, _ => (Int.add_zero _).symm
  | x :: l, st, h => by
    rw [wsScan]
    rcases h x (.head _) with rfl | rfl
    · rw [if_pos rfl, wsScan_n l _ fun y hy => h y (.tail _ hy), List.length_cons]; dsimp only; lia
    · rw [if_neg (by decide), if_pos rfl, wsScan_n l _ fun y hy => h y (.tail _ hy), List.length_cons]; dsimp only; lia
theorem wsOf_app {l t : List Nat} (hl : ∀ x ∈ l, x = 32 ∨ x = 9) (ht : TailOk t) : wsOf (l ++ t) = wsOf l := by
  unfold wsOf; rw [wsScan_app l _ hl, wsScan_tail ht]
theorem leadIn_app {l t : List Nat} (hl : ∀ x ∈ l, x = 32 ∨ x = 9) (ht : TailOk t) : leadIn (l ++ t) = l := by
  unfold leadIn
  rw [wsOf_app hl ht]
  have : (wsOf l).n = (l.length : Int) := (wsScan_n l _ hl).trans (Int.zero_add _)
  rw [this, cut_take _ (Int.natCast_nonneg _), Int.toNat_natCast, List.take_left']
  rfl


structure LeadOk (l : List Nat) (size c : Int) : Prop where
  ws : ∀ x ∈ l, x = 32 ∨ x = 9
  level : levelOf (wsOf l) size = c
  len : l.length ≤ 20
theorem leadB_ok {l : List Nat} {size c : Int} (h : leadB l size c = true) : LeadOk l size c := by
  obtain ⟨h1, h3⟩ := Bool.and_eq_true_iff.mp h
  obtain ⟨h1, h2⟩ := Bool.and_eq_true_iff.mp h1
  refine ⟨fun x hx => ?_, of_decide_eq_true h2, of_decide_eq_true h3⟩
  have := List.all_eq_true.mp h1 x hx
  rcases Bool.or_eq_true_iff.mp this with q | q
  · exact .inl (eq_of_beq q)
  · exact .inr (eq_of_beq q)
theorem LeadOk.no {l : List Nat} {size c : Int} (h : LeadOk l size c) : 10 ∉ l := fun q => by rcases h.ws 10 q with q | q <;> exact absurd q (by decide)


noncomputable def shift (o : Int) (s : Int × Int) : Int × Int := (o + s.1, o + s.2)
theorem rowSpans_shift (l : List Nat) (size : Int) (inward : Bool) (o : Int) : ∀ (ks : List Int) (sp : List (Int × Int)) (f : Int) (sp0 : List (Int × Int)),
    ks.foldl (spStep l size inward o) (sp0 ++ sp.map (shift o), f) = (sp0 ++ ((ks.foldl (spStep l size inward 0) (sp, f)).1.map (shift o)), (ks.foldl (spStep l size inward 0) (sp, f)).2)
  | [], _, _, _ => rfl
  | k :: ks, sp, f, sp0 => by
    rw [List.foldl_cons, List.foldl_cons]
    have key : spStep l size inward o (sp0 ++ sp.map (shift o), f) k = (sp0 ++ (spStep l size inward 0 (sp, f) k).1.map (shift o), (spStep l size inward 0 (sp, f) k).2) := by
      unfold spStep
      by_cases hin : inward = true
      · rw [if_pos hin, if_pos hin]
        by_cases hu : isUnit l size k = true
        · rw [if_pos hu, if_pos hu, List.map_append, List.append_assoc]
          have : shift o ((0 : Int) + k, 0 + k + size) = (o + k, o + k + size) := by unfold shift; rw [Int.zero_add, Int.add_assoc]
          rw [show [((0 : Int) + k, 0 + k + size)].map (shift o) = [(o + k, o + k + size)] from by rw [← this]; rfl]
        · rw [if_neg hu, if_neg hu]
      · rw [if_neg hin, if_neg hin]
        by_cases hu : l.getD k.toNat 0 = 9
        · rw [if_pos hu, if_pos hu, List.map_append, List.append_assoc]
          have : shift o ((0 : Int) + f, 0 + k + 1) = (o + f, o + k + 1) := by unfold shift; rw [Int.zero_add, Int.zero_add, Int.add_assoc]
          rw [show [((0 : Int) + f, 0 + k + 1)].map (shift o) = [(o + f, o + k + 1)] from by rw [← this]; rfl]
        · rw [if_neg hu, if_neg hu]
    rw [key]
    exact rowSpans_shift l size inward o ks _ _ sp0
theorem rowSpans_eq (l : List Nat) (size : Int) (inward : Bool) (o : Int) (sp0 : List (Int × Int)) : (rowSpans l size inward o sp0).1 = sp0 ++ (loc l size inward).map (shift o) := by
  have := rowSpans_shift l size inward o (rangeL 0 l.length 1) [] 0 sp0
  unfold rowSpans loc
  rw [List.map_nil, List.append_nil] at this
  rw [this]; rfl

theorem sorted_app {r : List (Int × Int)} {o : Int} (h2 : Sorted o r) : ∀ {b e : Int} {l : List (Int × Int)}, sortedB b l e = true → ∀ (o1 : Int), o1 + e ≤ o → Sorted (o1 + b) (l.map (shift o1) ++ r)
  | b, e, [], h, o1, ho => by
    have := of_decide_eq_true h
    cases r with
    | nil => trivial
    | cons s r => exact ⟨Int.le_trans (by lia) h2.1, h2.2⟩
  | b, e, s :: l, h, o1, ho => by
    obtain ⟨h1, h3⟩ := Bool.and_eq_true_iff.mp h
    obtain ⟨h1, h4⟩ := Bool.and_eq_true_iff.mp h1
    have h1 := of_decide_eq_true h1
    have h4 := of_decide_eq_true h4
    exact ⟨Int.add_le_add_left h1 o1, Int.add_lt_add_left h4 o1, sorted_app h2 h3 o1 ho⟩
theorem sorted_in : ∀ {b e : Int} {l : List (Int × Int)}, sortedB b l e = true → ∀ s ∈ l, b ≤ s.1 ∧ s.1 < s.2 ∧ s.2 ≤ e
  | b, e, s :: l, h, x, hx => by
    obtain ⟨h1, h3⟩ := Bool.and_eq_true_iff.mp h
    obtain ⟨h1, h4⟩ := Bool.and_eq_true_iff.mp h1
    have h1 := of_decide_eq_true h1
    have h4 := of_decide_eq_true h4
    rcases List.mem_cons.mp hx with rfl | hx
    · refine ⟨h1, h4, ?_⟩
      have : ∀ {b e : Int} {l : List (Int × Int)}, sortedB b l e = true → b ≤ e := by
        intro b e l
        induction l generalizing b with
        | nil => exact fun h => of_decide_eq_true h
        | cons s l ih =>
          intro h
          obtain ⟨h1, h3⟩ := Bool.and_eq_true_iff.mp h
          obtain ⟨h1, h4⟩ := Bool.and_eq_true_iff.mp h1
          exact Int.le_trans (of_decide_eq_true h1) (Int.le_trans (Int.le_of_lt (of_decide_eq_true h4)) (ih h3))
      exact this h3
    · have := sorted_in h3 x hx
      exact ⟨by lia, this.2⟩
end Mine

set_option tactic.hygienic false
set_option maxRecDepth 10000
namespace Mine
open PySem PySem.W PyProof.Rows

theorem cut_mid {α : Type} (l : List α) {a b : Int} (h0 : 0 ≤ a) (h1 : a ≤ b) (h2 : b.toNat ≤ l.length) : cut l (some a) (some b) = (l.take b.toNat).drop a.toNat := by
  unfold cut
  simp only [Option.elim, clipAt_pos h0, clipAt_pos (Int.le_trans h0 h1)]
  have : a.toNat ≤ b.toNat := Int.toNat_le_toNat h1
  rw [Nat.min_eq_left h2, Nat.min_eq_left (Nat.le_trans this h2), List.drop_take]

noncomputable abbrev pageT (t0 t1 l0 l1 : List Nat) : List Nat := (l0 ++ t0) ++ 10 :: (l1 ++ t1)


theorem newText_at {X l Y : List Nat} {pre : List (List Nat)} (hX : ∀ p, 10 ∉ p → splitOn 10 (X ++ p) = pre ++ [p]) (hl : 10 ∉ l) {size : Int} {inward : Bool} {f e : Int} (h0 : 0 ≤ f) (h1 : f < e) (h2 : e ≤ l.length) :
    above1 (X ++ (l ++ Y)) ((X.length : Int) + f) = pre ++ [l.take f.toNat] ∧ wideOf (X ++ (l ++ Y)) size ((X.length : Int) + f, (X.length : Int) + e) = wideL l size (f, e) ∧
      newText (X ++ (l ++ Y)) size inward ((X.length : Int) + f, (X.length : Int) + e) = X ++ (newLead l size inward (f, e) ++ Y) := by
  obtain ⟨m, rfl⟩ := Int.eq_ofNat_of_zero_le h0
  obtain ⟨k, rfl⟩ := Int.eq_ofNat_of_zero_le (Int.le_trans h0 (Int.le_of_lt h1))
  have h1 : m < k := Int.ofNat_lt.mp h1
  have h2 : k ≤ l.length := Int.ofNat_le.mp h2
  have tn : ∀ j : Nat, ((X.length : Int) + (j : Int)).toNat = X.length + j := fun j => by lia
  have nn : ∀ j : Nat, (0 : Int) ≤ (X.length : Int) + (j : Int) := fun j => by lia
  have tk : ∀ j : Nat, j ≤ l.length → cut (X ++ (l ++ Y)) none (some ((X.length : Int) + (j : Int))) = X ++ l.take j := fun j hj => by
    rw [cut_take _ (nn j), tn, List.take_length_add_append, List.take_append_of_le_length hj]
  have dr : cut (X ++ (l ++ Y)) (some ((X.length : Int) + (k : Int))) none = l.drop k ++ Y := by
    rw [cut_drop _ (nn k), tn, List.drop_length_add_append, List.drop_append_of_le_length h2]
  have md : cut (X ++ (l ++ Y)) (some ((X.length : Int) + (m : Int))) (some ((X.length : Int) + (k : Int))) = (l.take k).drop m := by
    rw [cut_mid _ (nn m) (by lia) (by rw [tn, List.length_append, List.length_append]; lia), tn, tn, List.take_length_add_append, List.take_append_of_le_length h2, List.drop_length_add_append]
  have lt : ∀ j : Nat, cut l none (some (j : Int)) = l.take j := fun j => by rw [cut_take _ (Int.natCast_nonneg j), Int.toNat_natCast]
  have ld : cut l (some (k : Int)) none = l.drop k := by rw [cut_drop _ (Int.natCast_nonneg k), Int.toNat_natCast]
  have hab : above1 (X ++ (l ++ Y)) ((X.length : Int) + (m : Int)) = pre ++ [l.take m] := by
    unfold above1
    rw [tk m (by lia), hX _ fun q => hl (List.mem_of_mem_take q)]
  have hlast : lastOf (above1 (X ++ (l ++ Y)) ((X.length : Int) + (m : Int))) = l.take m := by
    rw [hab]
    unfold lastOf
    rw [List.length_append, List.length_singleton, Nat.add_sub_cancel, List.getD_eq_getElem?_getD, List.getElem?_append_right (Nat.le_refl _), Nat.sub_self]; rfl
  have hw : wideOf (X ++ (l ++ Y)) size ((X.length : Int) + (m : Int), (X.length : Int) + (k : Int)) = wideL l size ((m : Int), (k : Int)) := by
    unfold wideOf wideL
    dsimp only
    rw [hlast, md, lt, lt]
    have : l.take m ++ (l.take k).drop m = l.take k := by
      have h := List.take_append_drop m (l.take k)
      rwa [List.take_take, Nat.min_eq_left (Nat.le_of_lt h1)] at h
    rw [this]
  refine ⟨by rw [Int.toNat_natCast]; exact hab, hw, ?_⟩
  unfold newText written1 newLead
  dsimp only
  rw [hw, tk m (by lia), dr, lt, ld]
  simp only [List.append_assoc]

section
variable {size c0 c1 : Int} {inward : Bool} {f0 f1 t0 t1 l0 l1 : List Nat}

theorem rowGood.count {size c : Int} {fin : List Nat} : ∀ {k : Nat} {l : List Nat}, rowGood size inward c fin k l = true → (loc l size inward).length = k ∧ sortedB 0 (loc l size inward) l.length = true
  | 0, l, h => by
    obtain ⟨_, h⟩ := Bool.and_eq_true_iff.mp h
    obtain ⟨h, _⟩ := Bool.and_eq_true_iff.mp h
    rw [of_decide_eq_true h]
    exact ⟨rfl, decide_eq_true (Int.natCast_nonneg _)⟩
  | k + 1, l, h => by
    obtain ⟨_, h⟩ := Bool.and_eq_true_iff.mp h
    obtain ⟨h, h'⟩ := Bool.and_eq_true_iff.mp h
    exact ⟨of_decide_eq_true h, (Bool.and_eq_true_iff.mp h').1⟩
theorem rowGood.next {size c : Int} {fin : List Nat} {k : Nat} {l : List Nat} (h : rowGood size inward c fin (k + 1) l = true) (s : Int × Int) (hs : s ∈ loc l size inward) : (inward = false → 0 ≤ wideL l size s ∧ wideL l size s ≤ 20) ∧ rowGood size inward c fin k (newLead l size inward s) = true := by
  obtain ⟨_, h⟩ := Bool.and_eq_true_iff.mp h
  obtain ⟨_, h⟩ := Bool.and_eq_true_iff.mp h
  obtain ⟨_, h⟩ := Bool.and_eq_true_iff.mp h
  obtain ⟨h1, h2⟩ := Bool.and_eq_true_iff.mp (List.all_eq_true.mp h s hs)
  refine ⟨fun e => ?_, h2⟩
  rw [e, Bool.false_or] at h1
  obtain ⟨a, b⟩ := Bool.and_eq_true_iff.mp h1
  exact ⟨of_decide_eq_true a, of_decide_eq_true b⟩

theorem no_app {a b : List Nat} (ha : 10 ∉ a) (hb : 10 ∉ b) : 10 ∉ a ++ b := fun h => (List.mem_append.mp h).elim ha hb
theorem page_split (h0 : LeadOk l0 size c0) (h1 : LeadOk l1 size c1) (ht0 : TailOk t0) (ht1 : TailOk t1) : splitOn 10 (pageT t0 t1 l0 l1) = [l0 ++ t0, l1 ++ t1] := by
  rw [pageT, splitOn_append _ (no_app h0.no ht0.no), splitOn_free (no_app h1.no ht1.no)]
theorem page_ok (h0 : LeadOk l0 size c0) (h1 : LeadOk l1 size c1) (ht0 : TailOk t0) (ht1 : TailOk t1) : PageOk (pageT t0 t1 l0 l1) := by
  have a := h0.len; have b := h1.len; have c := ht0.len; have d := ht1.len
  refine ⟨by rw [page_split h0 h1 ht0 ht1]; rfl, fun r hr => ?_, ?_⟩
  · rw [page_split h0 h1 ht0 ht1] at hr
    rcases List.mem_cons.mp hr with rfl | hr
    · rw [List.length_append]; lia
    · rw [List.mem_singleton.mp hr, List.length_append]; lia
  · simp only [pageT, List.length_append, List.length_cons]; lia
theorem page_spans (h0 : LeadOk l0 size c0) (h1 : LeadOk l1 size c1) (ht0 : TailOk t0) (ht1 : TailOk t1) :
    spans1 (pageT t0 t1 l0 l1) size inward = (loc l0 size inward).map (shift 0) ++ (loc l1 size inward).map (shift (((l0 ++ t0 ++ [10]).length : Nat) : Int)) := by
  unfold spans1
  rw [page_split h0 h1 ht0 ht1]
  show (rowSpans (leadIn (l1 ++ t1)) size inward (0 + ((l0 ++ t0).length : Int) + 1) (rowSpans (leadIn (l0 ++ t0)) size inward 0 []).1).1 = _
  rw [leadIn_app h0.ws ht0, leadIn_app h1.ws ht1, rowSpans_eq, rowSpans_eq, List.nil_append, List.length_append (as := l0 ++ t0), Int.zero_add, List.length_singleton]
  rfl
end
end Mine

set_option tactic.hygienic false
set_option maxRecDepth 10000
namespace Mine
open PySem PySem.W PyProof.Rows

section
variable {size c0 c1 : Int} {inward : Bool} {f0 f1 t0 t1 : List Nat}


theorem span_ok {t : List Nat} {X l Y r : List Nat} {pre : List (List Nat)} {levels : List Int} {f e : Int} (hX : ∀ p, 10 ∉ p → splitOn 10 (X ++ p) = pre ++ [p]) (ht : t = X ++ (l ++ Y)) (hl : 10 ∉ l) (h0 : 0 ≤ f) (h1 : f < e) (h2 : e ≤ l.length) (hpre : pre.length ≤ 1) (hlen : X.length + l.length ≤ 300)
    (hw : inward = false → 0 ≤ wideL l size (f, e) ∧ wideL l size (f, e) ≤ 20) (hr : (splitOn 10 (X ++ (newLead l size inward (f, e) ++ Y)))[pre.length]? = some r) (hrl : r.length ≤ 100) (hlev : levels[pre.length]? = some (levelOf (wsOf r) size)) (hp : PageOk (X ++ (newLead l size inward (f, e) ++ Y))) :
    SpanOk t size inward levels ((X.length : Int) + f, (X.length : Int) + e) ∧ newText t size inward ((X.length : Int) + f, (X.length : Int) + e) = X ++ (newLead l size inward (f, e) ++ Y) := by
  subst ht
  obtain ⟨a, b, c'⟩ := newText_at (Y := Y) (size := size) (inward := inward) hX hl h0 h1 h2
  refine ⟨⟨by dsimp only; lia, by dsimp only; lia, by dsimp only; lia, fun q => ?_, ?_, ⟨r, ?_, by lia, ?_⟩, ?_⟩, c'⟩
  · rw [b]; have := hw q; lia
  · dsimp only; rw [a, List.length_append, List.length_singleton]; lia
  · dsimp only; rw [a, List.length_append, List.length_singleton, Nat.add_sub_cancel, c']; exact hr
  · dsimp only; rw [a, List.length_append, List.length_singleton, Nat.add_sub_cancel]; exact hlev
  · rw [c']; exact hp

set_option maxHeartbeats 1000000 in
theorem page_run (ht0 : TailOk t0) (ht1 : TailOk t1) : ∀ (k k0 k1 : Nat) (l0 l1 : List Nat), k = k0 + k1 → k ≤ 6 → rowGood size inward c0 f0 k0 l0 = true → rowGood size inward c1 f1 k1 l1 = true → RunOk size inward [c0, c1] (pageT t0 t1 f0 f1) k (pageT t0 t1 l0 l1) := by
  intro k
  induction k with
  | zero =>
    intro k0 k1 l0 l1 hk _ g0 g1
    obtain rfl : k0 = 0 := by lia
    obtain rfl : k1 = 0 := by lia
    have o0 := leadB_ok (rowGood.lead g0)
    have o1 := leadB_ok (rowGood.lead g1)
    have e0 := List.length_eq_zero_iff.mp (rowGood.count g0).1
    have e1 := List.length_eq_zero_iff.mp (rowGood.count g1).1
    have q0 := of_decide_eq_true (Bool.and_eq_true_iff.mp (Bool.and_eq_true_iff.mp g0).2).2
    have q1 := of_decide_eq_true (Bool.and_eq_true_iff.mp (Bool.and_eq_true_iff.mp g1).2).2
    refine ⟨page_ok o0 o1 ht0 ht1, ?_, by rw [q0, q1]⟩
    rw [page_spans o0 o1 ht0 ht1, e0, e1]; rfl
  | succ k ih =>
    intro k0 k1 l0 l1 hk h6 g0 g1
    have o0 := leadB_ok (rowGood.lead g0)
    have o1 := leadB_ok (rowGood.lead g1)
    obtain ⟨n0, s0⟩ := rowGood.count g0
    obtain ⟨n1, s1⟩ := rowGood.count g1
    have hsp := page_spans (inward := inward) o0 o1 ht0 ht1
    have a0 := o0.len; have a1 := o1.len; have a2 := ht0.len; have a3 := ht1.len
    have hoff : (((l0 ++ t0 ++ [10]).length : Nat) : Int) = l0.length + t0.length + 1 := by simp only [List.length_append, List.length_singleton]; lia
    have hT : ((pageT t0 t1 l0 l1).length : Int) = (((l0 ++ t0 ++ [10]).length : Nat) : Int) + l1.length + t1.length := by simp only [pageT, List.length_append, List.length_cons, List.length_nil]; lia
    have hsorted : Sorted 0 (spans1 (pageT t0 t1 l0 l1) size inward) := by
      rw [hsp]
      have := sorted_app (r := []) (o := (((l0 ++ t0 ++ [10]).length : Nat) : Int) + l1.length) trivial s1 _ (Int.le_refl _)
      rw [List.append_nil, Int.add_zero] at this
      have q := sorted_app this s0 0 (by lia)
      rwa [Int.add_zero] at q
    refine ⟨page_ok o0 o1 ht0 ht1, ?_, h6, fun b => srev_sorted hsorted b, ?_, fun s hs => ?_⟩
    · rw [hsp, List.length_append, List.length_map, List.length_map, n0, n1, hk]
    · unfold aheadOf
      refine List.filter_eq_self.mpr fun s hs => decide_eq_true ?_
      rw [hsp] at hs
      rcases List.mem_append.mp hs with q | q
      · obtain ⟨u, hu, rfl⟩ := List.mem_map.mp q
        have := sorted_in s0 u hu
        unfold shift; dsimp only; lia
      · obtain ⟨u, hu, rfl⟩ := List.mem_map.mp q
        have := sorted_in s1 u hu
        unfold shift; dsimp only; lia
    · rw [hsp] at hs
      rcases List.mem_append.mp hs with q | q
      · obtain ⟨⟨f, e⟩, hu, rfl⟩ := List.mem_map.mp q
        obtain ⟨k0, rfl⟩ : ∃ j, k0 = j + 1 := ⟨k0 - 1, by have := List.length_pos_of_mem hu; lia⟩
        obtain ⟨u1, u2, u3⟩ := sorted_in s0 _ hu
        obtain ⟨w1, w2⟩ := rowGood.next g0 _ hu
        have o2 := leadB_ok (rowGood.lead w2)
        have e1 : pageT t0 t1 l0 l1 = [] ++ (l0 ++ (t0 ++ 10 :: (l1 ++ t1))) := by simp only [pageT, List.append_assoc, List.nil_append]
        have e2 : [] ++ (newLead l0 size inward (f, e) ++ (t0 ++ 10 :: (l1 ++ t1))) = pageT t0 t1 (newLead l0 size inward (f, e)) l1 := by simp only [pageT, List.append_assoc, List.nil_append]
        have e3 := o2.len
        obtain ⟨x1, x2⟩ := span_ok (levels := [c0, c1]) (X := []) (pre := []) (r := newLead l0 size inward (f, e) ++ t0) (fun p hp => splitOn_free hp) e1 o0.no u1 u2 u3 (Nat.zero_le _) (by rw [List.length_nil]; lia) w1 (by rw [e2, page_split o2 o1 ht0 ht1]; rfl) (by rw [List.length_append]; lia) (by rw [wsOf_app o2.ws ht0, o2.level]; rfl) (by rw [e2]; exact page_ok o2 o1 ht0 ht1)
        have e4 : shift 0 (f, e) = (((([] : List Nat).length : Nat) : Int) + f, ((([] : List Nat).length : Nat) : Int) + e) := rfl
        rw [e4]
        refine ⟨x1, ?_⟩
        rw [x2, e2]
        exact ih k0 k1 _ _ (by lia) (by lia) w2 g1
      · obtain ⟨⟨f, e⟩, hu, rfl⟩ := List.mem_map.mp q
        obtain ⟨k1, rfl⟩ : ∃ j, k1 = j + 1 := ⟨k1 - 1, by have := List.length_pos_of_mem hu; lia⟩
        obtain ⟨u1, u2, u3⟩ := sorted_in s1 _ hu
        obtain ⟨w1, w2⟩ := rowGood.next g1 _ hu
        have o2 := leadB_ok (rowGood.lead w2)
        have e1 : pageT t0 t1 l0 l1 = (l0 ++ t0 ++ [10]) ++ (l1 ++ t1) := by simp only [pageT, List.append_assoc, List.singleton_append]
        have e2 : (l0 ++ t0 ++ [10]) ++ (newLead l1 size inward (f, e) ++ t1) = pageT t0 t1 l0 (newLead l1 size inward (f, e)) := by simp only [pageT, List.append_assoc, List.singleton_append]
        have e3 := o2.len
        obtain ⟨x1, x2⟩ := span_ok (levels := [c0, c1]) (X := l0 ++ t0 ++ [10]) (pre := [l0 ++ t0]) (r := newLead l1 size inward (f, e) ++ t1) (fun p hp => by rw [List.append_assoc (l0 ++ t0), List.singleton_append, splitOn_append _ (no_app o0.no ht0.no), splitOn_free hp]; rfl) e1 o1.no u1 u2 u3 (Nat.le_refl _) (by simp only [List.length_append, List.length_singleton]; lia) w1 (by rw [e2, page_split o0 o2 ht0 ht1]; rfl) (by rw [List.length_append]; lia) (by rw [wsOf_app o2.ws ht1, o2.level]; rfl) (by rw [e2]; exact page_ok o0 o2 ht0 ht1)
        have e4 : shift (((l0 ++ t0 ++ [10]).length : Nat) : Int) (f, e) = ((((l0 ++ t0 ++ [10]).length : Nat) : Int) + f, (((l0 ++ t0 ++ [10]).length : Nat) : Int) + e) := rfl
        rw [e4]
        refine ⟨x1, ?_⟩
        rw [x2, e2]
        exact ih k0 k1 _ _ (by lia) (by lia) g0 w2
end
end Mine

set_option tactic.hygienic false
set_option maxRecDepth 100000
namespace Mine
open PySem PySem.W PyProof.Rows

noncomputable def tabsIn (l : List Nat) : Nat := (l.filter (· == 9)).length

noncomputable def runCheck (size : Int) (lead : List Nat) (c : Int) : Bool :=
  rowGood size false c (List.replicate c.toNat 32) (tabsIn lead) lead && (decide (tabsIn lead ≤ 3) && decide (c ≤ 3 * size))

noncomputable def unitCheck (size c : Int) : Bool := rowGood size true c (shortOf size c) (c / size).toNat (List.replicate c.toNat 32) && decide ((c / size).toNat ≤ 3)
noncomputable def quadCheck (size : Int) (lead : List Nat) (c : Int) (w v : WsS) : Bool :=
  (decide (0 ≤ c) && decide (c ≤ 12)) && (decide (v.count = tabsOf size c) && (decide (v.b = c % size) && (decide (decide ((w.count.length : Int) ≤ 1) = !mixed lead) && (decide (witOf w v = apartOf lead (shortOf size c)) && decide (witOf v w = (apartOf lead (shortOf size c)).map swapT)))))
noncomputable def check (size : Int) (lead : List Nat) : Bool := runCheck size lead (colWalk size lead) && quadCheck size lead (colWalk size lead) (wsOf lead) (wsOf (shortOf size (colWalk size lead)))
noncomputable def triples : List (List Nat) := (List.range 4).flatMap fun (a : Nat) => (List.range 4).flatMap fun (b : Nat) => (List.range 4).map fun (c : Nat) => part1 (a : Int) ++ part1 (b : Int) ++ part1 (c : Int)

noncomputable def leads : List (List Nat) := triples.foldr (fun l acc => if acc.contains l = true then acc else l :: acc) []
theorem leads_all : triples.all (fun l => leads.contains l) = true := by decide +kernel
theorem all2 : leads.all (check 2) = true := by decide +kernel
theorem all3 : leads.all (check 3) = true := by decide +kernel
theorem all4 : leads.all (check 4) = true := by decide +kernel
theorem unit2 : (List.range 7).all (fun (c : Nat) => unitCheck 2 (c : Int)) = true := by decide +kernel
theorem unit3 : (List.range 10).all (fun (c : Nat) => unitCheck 3 (c : Int)) = true := by decide +kernel
theorem unit4 : (List.range 13).all (fun (c : Nat) => unitCheck 4 (c : Int)) = true := by decide +kernel
end Mine

set_option tactic.hygienic false
set_option maxRecDepth 10000
namespace Mine
open PySem PySem.W PyProof.Rows

theorem mod4 (v : Int) : (((v % 4).toNat : Nat) : Int) = v % 4 ∧ (v % 4).toNat < 4 :=
  ⟨Int.toNat_of_nonneg (Int.emod_nonneg v (by decide)), (Int.toNat_lt (Int.emod_nonneg v (by decide))).mpr (Int.emod_lt_of_pos v (by decide))⟩
theorem lead_in (v : Int) : lead1 v ∈ triples := by
  refine List.mem_flatMap.mpr ⟨(v % 4).toNat, List.mem_range.mpr (mod4 v).2, List.mem_flatMap.mpr ⟨(v / 4 % 4).toNat, List.mem_range.mpr (mod4 _).2, List.mem_map.mpr ⟨(v / 16 % 4).toNat, List.mem_range.mpr (mod4 _).2, ?_⟩⟩⟩
  rw [(mod4 v).1, (mod4 (v / 4)).1, (mod4 (v / 16)).1]
  rfl
theorem lead_leads (v : Int) : lead1 v ∈ leads := by
  have := List.all_eq_true.mp leads_all _ (lead_in v)
  exact List.contains_iff_mem.mp this
theorem check_all {size : Int} (hs : size = 2 ∨ size = 3 ∨ size = 4) (v : Int) : check size (lead1 v) = true := by
  rcases hs with rfl | rfl | rfl
  · exact List.all_eq_true.mp all2 _ (lead_leads v)
  · exact List.all_eq_true.mp all3 _ (lead_leads v)
  · exact List.all_eq_true.mp all4 _ (lead_leads v)
theorem unit_all {size c : Int} (hs : size = 2 ∨ size = 3 ∨ size = 4) (h0 : 0 ≤ c) (h1 : c ≤ 3 * size) : unitCheck size c = true := by
  obtain ⟨m, rfl⟩ := Int.eq_ofNat_of_zero_le h0
  rcases hs with rfl | rfl | rfl
  · exact List.all_eq_true.mp unit2 m (List.mem_range.mpr (by lia))
  · exact List.all_eq_true.mp unit3 m (List.mem_range.mpr (by lia))
  · exact List.all_eq_true.mp unit4 m (List.mem_range.mpr (by lia))

theorem tail1_ok (v : Int) : TailOk (tail1 v) := by
  unfold tail1
  split
  · exact ⟨by decide, by decide, fun x r h => by cases h; decide⟩
  · split
    · exact ⟨by decide, by decide, fun x r h => by cases h⟩
    · split
      · exact ⟨by decide, by decide, fun x r h => by cases h; decide⟩
      · exact ⟨by decide, by decide, fun x r h => by cases h; decide⟩

section
variable {size : Int} (hs : size = 2 ∨ size = 3 ∨ size = 4)
include hs

theorem run_check (v : Int) : runCheck size (lead1 v) (colWalk size (lead1 v)) = true := (Bool.and_eq_true_iff.mp (check_all hs v)).1
theorem unit_check (v : Int) : unitCheck size (colWalk size (lead1 v)) = true := by
  obtain ⟨h1, h2⟩ := Bool.and_eq_true_iff.mp (check_all hs v)
  exact unit_all hs (of_decide_eq_true (Bool.and_eq_true_iff.mp (Bool.and_eq_true_iff.mp h2).1).1) (of_decide_eq_true (Bool.and_eq_true_iff.mp (Bool.and_eq_true_iff.mp h1).2).2)
theorem run_first (u v : Int) : RunOk size false [colWalk size (lead1 u), colWalk size (lead1 v)] (pageT (tail1 u) (tail1 v) (List.replicate (colWalk size (lead1 u)).toNat 32) (List.replicate (colWalk size (lead1 v)).toNat 32)) (tabsIn (lead1 u) + tabsIn (lead1 v)) (pageT (tail1 u) (tail1 v) (lead1 u) (lead1 v)) := by
  obtain ⟨a1, a2⟩ := Bool.and_eq_true_iff.mp (run_check hs u)
  obtain ⟨b1, b2⟩ := Bool.and_eq_true_iff.mp (run_check hs v)
  exact page_run (tail1_ok u) (tail1_ok v) _ _ _ _ _ rfl (Nat.add_le_add (of_decide_eq_true (Bool.and_eq_true_iff.mp a2).1) (of_decide_eq_true (Bool.and_eq_true_iff.mp b2).1)) a1 b1
theorem run_second (u v : Int) : RunOk size true [colWalk size (lead1 u), colWalk size (lead1 v)] (pageT (tail1 u) (tail1 v) (shortOf size (colWalk size (lead1 u))) (shortOf size (colWalk size (lead1 v)))) ((colWalk size (lead1 u) / size).toNat + (colWalk size (lead1 v) / size).toNat) (pageT (tail1 u) (tail1 v) (List.replicate (colWalk size (lead1 u)).toNat 32) (List.replicate (colWalk size (lead1 v)).toNat 32)) := by
  obtain ⟨a1, a2⟩ := Bool.and_eq_true_iff.mp (unit_check hs u)
  obtain ⟨b1, b2⟩ := Bool.and_eq_true_iff.mp (unit_check hs v)
  exact page_run (tail1_ok u) (tail1_ok v) _ _ _ _ _ rfl (Nat.add_le_add (of_decide_eq_true a2) (of_decide_eq_true b2)) a1 b1
theorem quad_ok (v : Int) : QuadOk size (lead1 v) (tail1 v) (colWalk size (lead1 v)) := by
  obtain ⟨h1, h2⟩ := Bool.and_eq_true_iff.mp (check_all hs v)
  have hl := (leadB_ok (rowGood.lead (Bool.and_eq_true_iff.mp h1).1)).ws
  have ht := tail1_ok v
  have hsh : ∀ x ∈ shortOf size (colWalk size (lead1 v)), x = 32 ∨ x = 9 := fun x hx => by
    rcases List.mem_append.mp hx with q | q
    · exact .inr (List.eq_of_mem_replicate q)
    · exact .inl (List.eq_of_mem_replicate q)
  obtain ⟨c, h2⟩ := Bool.and_eq_true_iff.mp h2
  obtain ⟨c0, c1⟩ := Bool.and_eq_true_iff.mp c
  obtain ⟨x1, h2⟩ := Bool.and_eq_true_iff.mp h2
  obtain ⟨x2, h2⟩ := Bool.and_eq_true_iff.mp h2
  obtain ⟨x3, h2⟩ := Bool.and_eq_true_iff.mp h2
  obtain ⟨x4, x5⟩ := Bool.and_eq_true_iff.mp h2
  have ll : (lead1 v).length ≤ 6 := by
    have := part1_len (v % 4); have := part1_len (v / 4 % 4); have := part1_len (v / 16 % 4)
    unfold lead1
    rw [List.length_append, List.length_append]; lia
  refine ⟨of_decide_eq_true c0, of_decide_eq_true c1, ll, ht.len, ?_, ?_, ?_, ?_, ?_⟩
  · rw [wsOf_app hsh ht]; exact of_decide_eq_true x1
  · rw [wsOf_app hsh ht]; exact of_decide_eq_true x2
  · rw [wsOf_app hl ht]; exact of_decide_eq_true x3
  · rw [wsOf_app hl ht, wsOf_app hsh ht]; exact of_decide_eq_true x4
  · rw [wsOf_app hl ht, wsOf_app hsh ht]; exact of_decide_eq_true x5
end
end Mine

set_option tactic.hygienic false
set_option maxRecDepth 10000
namespace Mine
open PySem PySem.W PyProof.Rows

noncomputable def values1 (xs : List Int) : List Int := (rangeL 0 2 1).map fun k => sumAt xs 2 k % 256 + [146, 121].getD k.toNat 0
noncomputable def size1 (xs : List Int) : Int := (xs.sum + 1) % 3 + 2
noncomputable def firsts1 (xs : List Int) : List Int := (cut (xs ++ [6, 5, 0, 9, 14, 3]) none (some 6)).map fun x => x % 60
noncomputable def lasts1 (xs : List Int) : List Int := (cut (backOf xs ++ [10, 7, 4, 1, 12, 8]) none (some 6)).map fun x => x % 60
theorem values1_two (xs : List Int) : ∃ u v, values1 xs = [u, v] := ⟨_, _, rfl⟩
theorem size1_is (xs : List Int) : size1 xs = 2 ∨ size1 xs = 3 ∨ size1 xs = 4 := by
  have h0 := Int.emod_nonneg (xs.sum + 1) (b := 3) (by decide)
  have h1 := Int.emod_lt_of_pos (xs.sum + 1) (b := 3) (by decide)
  unfold size1; lia
theorem six_of (l : List Int) (t : List Int) (ht : t.length = 6) : (cut (l ++ t) none (some 6)).length = 6 := by
  rw [cut_take _ (by decide), List.length_take, List.length_append, ht]
  exact Nat.min_eq_left (Nat.le_add_left _ _)

section
variable {C : Cx} {P : Params} {mg : Str → Option Value} (L : LawG C (K1 P) mg) {n : Nat}
include L

theorem g_sum : GlobIs C "sum" (.builtin "sum") := L.bi (by kernel_rfl) (by decide +kernel) (by decide)
theorem g_zip : GlobIs C "zip" (.type "zip") := L.bi (by kernel_rfl) (by decide +kernel) (by decide)

omit L in
theorem EvIt.conv {fr : Shape} {n : Nat} {vals : List Slot} {tgt iter : Expr} {l l' : List VP} (h : EvIt C fr n vals tgt iter l) (e : l = l') : EvIt C fr n vals tgt iter l' := e ▸ h

omit L in

theorem zip_two {α : Type} {fr : Shape} {m : Nat} {vals : List Slot} {np xp yp pos : Pos} {tgt : Expr} {x y : Str} (f g : α → VP) (l : List α) (hg : Ev C fr m vals (.Name "zip" np) (vIs (.type "zip"))) (hx : Ev C fr m vals (.Name x xp) (vLst (l.map f))) (hy : Ev C fr m vals (.Name y yp) (vLst (l.map g))) (tg : isTup tgt = true) :
    EvIt C fr m vals tgt (.Call (.Name "zip" np) [.Name x xp, .Name y yp] [] pos) (l.map fun a => vTup [f a, g a]) :=
  EvIt.conv (EvIt.zip (cols := [l.map f, l.map g]) (rows := l.map fun a => [f a, g a]) hg (.cons hx (.cons hy .nil)) tg (by simp) (by show 2 ≤ sizeLine; rw [sizeLine_eq]; decide) (fun r hr => by obtain ⟨a, _, rfl⟩ := List.mem_map.mp hr; rfl) (fun j c hc => by
    rw [List.map_map]
    match j, hc with
    | 0, hc => cases hc; rfl
    | 1, hc => cases hc; rfl) zip_ok2) (by rw [List.map_map]; rfl)

omit L in
theorem zip_four {α : Type} {fr : Shape} {m : Nat} {vals : List Slot} {np xp yp zp wp pos : Pos} {tgt : Expr} {x y z w : Str} (f g h k : α → VP) (l : List α) (hg : Ev C fr m vals (.Name "zip" np) (vIs (.type "zip"))) (hx : Ev C fr m vals (.Name x xp) (vLst (l.map f))) (hy : Ev C fr m vals (.Name y yp) (vLst (l.map g))) (hz : Ev C fr m vals (.Name z zp) (vLst (l.map h))) (hw : Ev C fr m vals (.Name w wp) (vLst (l.map k))) (tg : isTup tgt = true) :
    EvIt C fr m vals tgt (.Call (.Name "zip" np) [.Name x xp, .Name y yp, .Name z zp, .Name w wp] [] pos) (l.map fun a => vTup [f a, g a, h a, k a]) :=
  EvIt.conv (EvIt.zip (cols := [l.map f, l.map g, l.map h, l.map k]) (rows := l.map fun a => [f a, g a, h a, k a]) hg (.cons hx (.cons hy (.cons hz (.cons hw .nil)))) tg (by simp) (by show 4 ≤ sizeLine; rw [sizeLine_eq]; decide) (fun r hr => by obtain ⟨a, _, rfl⟩ := List.mem_map.mp hr; rfl) (fun j c hc => by
    rw [List.map_map]
    match j, hc with
    | 0, hc => cases hc; rfl
    | 1, hc => cases hc; rfl
    | 2, hc => cases hc; rfl
    | 3, hc => cases hc; rfl) zip_ok4) (by rw [List.map_map]; rfl)

set_option maxHeartbeats 16000000 in
theorem law_code (T1 : MakerOk C mg (hitTab (K1 P) 129 128 124)) (T2 : MakerOk C mg (progTab (K1 P) 136 135 131)) (xs : List Int) (hx : xs.length ≤ 63)
    (h1 : ∀ u v : Int, ∃ k, RunOk (size1 xs) false [colWalk (size1 xs) (lead1 u), colWalk (size1 xs) (lead1 v)] (joinOn 10 [List.replicate (colWalk (size1 xs) (lead1 u)).toNat 32 ++ tail1 u, List.replicate (colWalk (size1 xs) (lead1 v)).toNat 32 ++ tail1 v]) k (joinOn 10 [lead1 u ++ tail1 u, lead1 v ++ tail1 v]))
    (h2 : ∀ u v : Int, ∃ k, RunOk (size1 xs) true [colWalk (size1 xs) (lead1 u), colWalk (size1 xs) (lead1 v)] (joinOn 10 [shortOf (size1 xs) (colWalk (size1 xs) (lead1 u)) ++ tail1 u, shortOf (size1 xs) (colWalk (size1 xs) (lead1 v)) ++ tail1 v]) k (joinOn 10 [List.replicate (colWalk (size1 xs) (lead1 u)).toNat 32 ++ tail1 u, List.replicate (colWalk (size1 xs) (lead1 v)).toNat 32 ++ tail1 v]))
    (hq : ∀ v : Int, QuadOk (size1 xs) (lead1 v) (tail1 v) (colWalk (size1 xs) (lead1 v))) : CodeG C (n + 7) 151 [intsP xs] (vBool true) := by
  refine CodeG.top (n := n + 6) (L.def_ (xs := ["script"]) (names := lawNames) (cells := ["script", "size"]) (by kernel_rfl) (by kernel_rfl) (bind_1 fun a => by kernel_rfl)) rfl (o := .ret (vBool true)) ?_ (.ret _)
  have hturn := fun (size : Int) lead tail c q1 q2 Q s0 s1 s3 s4 s5 s6 s7 s8 s11 s12 => law_row (n := n) L size lead tail c q1 q2 Q s0 s1 s3 s4 s5 s6 s7 s8 s11 s12
  rw [show stAt (bodyOf (fnAt (K1 P) 151)) 12 = .For _ _ _ _ _ from rfl, show lawFr P = ⟨Scope.mk _ _ _ _ _, _, _⟩ from rfl] at hturn
  dsimp only [forBody] at hturn
  rw [show fnAt (K1 P) 151 = FuncData.mk _ _ _ _ _ _ _ _ _ _ _ _ _ _ _ from rfl]
  dsimp only [bodyOf, startVals, List.map, List.append, List.replicate, List.length]
  have hnd := law_nd
  have hlx : (xs.map vInt).length = xs.length := List.length_map ..
  have hszx : (xs.map vInt).length ≤ sizeLine := by rw [hlx, sizeLine_eq]; exact Nat.le_trans hx (by decide)
  have hxl : -(2 ^ 40) ≤ (xs.length : Int) ∧ (xs.length : Int) < 2 ^ 40 := ⟨Int.le_trans (by decide) (Int.natCast_nonneg _), Int.lt_of_le_of_lt (Int.ofNat_le.mpr hx) (by decide)⟩
  have hlen : ∀ {k : Nat}, FnG C k (.builtin "len") [intsP xs] (vInt xs.length) := fun {k} => (FnG.lenL hszx).conv (by rw [hlx])
  -- values
  refine Ex.cons (Ex1.assignComp 1 ["k"] [0] [intsP xs] rfl hnd rfl (by kernel_rfl) ⟨rfl, trivial⟩ (Ev.call (Ev.glob (g_range L) rfl) (KeepOk.type _) (.cons Ev.int .nil) FnG.range1) (IterG.range (by decide) (by decide) (by decide) (by decide))
    (CTurns.map vInt (fun k => vInt (sumAt xs 2 k % 256 + [146, 121].getD k.toNat 0)) (fun o => [(match o with | some k => .val (vInt k) | none => .un), .val (intsP xs)]) (fun o k => Asg.name 0 rfl (by decide) rfl) _ none (fun k hk => ?_)) ?_) (Ex.freeze 1 rfl rfl ?_)
  · have hk' := mem_rangeL hk
    refine Ev.bin (Ev.bin (Ev.call (Ev.glob (g_sum L) rfl) (KeepOk.builtin _) (.cons (EvL.ev (EvL.compOf (l := ((rangeL k xs.length 2).map fun i => xs.getD i.toNat 0).map vInt) ["i"] [1] [intsP xs] (by kernel_rfl) ⟨rfl, trivial⟩ (Ev.call (Ev.glob (g_range L) rfl) (KeepOk.type _) (.cons (Ev.name 0 rfl rfl) (.cons (Ev.call (Ev.glob (g_len L) rfl) (KeepOk.builtin _) (.cons (Ev.name 1 rfl rfl) .nil) hlen) (.cons Ev.int .nil))) (FnG.range3 (by decide) (by decide))) (IterG.range (by decide) ⟨Int.le_trans (by decide) hk'.1, Int.lt_trans hk'.2 (by decide)⟩ hxl (by decide)) ?_ ?_)) .nil) FnG.sum) Ev.int (BinG.mod (by decide)))
      (Ev.sub (EvL.ev (EvL.list (.cons Ev.int (.cons Ev.int .nil)))) (Ev.name 0 rfl rfl) (SubG.item hk'.1 (Int.lt_trans hk'.2 (by decide)) ?_)) BinG.add
    · rw [List.map_map]
      refine CTurns.map vInt (vInt ∘ fun i => xs.getD i.toNat 0) (fun o => [(match o with | some i => .val (vInt i) | none => .un), .val (intsP xs)]) (fun o i => Asg.name 0 rfl (by decide) rfl) _ none (fun i hi => ?_)
      have hi' := mem_rangeLc (by decide) hi
      exact Ev.sub (Ev.name 1 rfl rfl) (Ev.name 0 rfl rfl) (SubG.item (Int.le_trans hk'.1 hi'.1) (Int.lt_trans hi'.2 (Int.lt_trans hxl.2 (by decide))) (get_int ((Int.toNat_lt (Int.le_trans hk'.1 hi'.1)).mpr hi'.2)))
    · rw [List.length_map, List.length_map, sizeLine_eq]
      have := rangeLc_length (k := k) (N := xs.length) (c := 2) hk'.1 (by decide)
      lia
    · have : k = 0 ∨ k = 1 := by lia
      rcases this with rfl | rfl <;> rfl
  · rw [List.length_map, sizeLine_eq, show (rangeL 0 2 1).length = 2 from rangeL_length 2]; decide
  show Ex C _ _ [_, _, _, _, _, _, _, _, _, _, _, _, _, _, _, _, _, _] _ _
  rw [show ((rangeL 0 2 1).map fun k => vInt (sumAt xs 2 k % 256 + [146, 121].getD k.toNat 0)) = (values1 xs).map vInt from rfl]
  obtain ⟨u, v, huv⟩ := values1_two xs
  rw [huv]
  -- size
  refine Ex.cons (Ex1.assign (p := vInt (size1 xs)) 2 rfl hnd rfl (Ev.bin (Ev.bin (Ev.bin (Ev.call (Ev.glob (g_sum L) rfl) (KeepOk.builtin _) (.cons (Ev.name 0 rfl rfl) .nil) FnG.sum) Ev.int BinG.add) Ev.int (BinG.mod (by decide))) Ev.int BinG.add)) ?_
  show Ex C _ _ [_, _, _, _, _, _, _, _, _, _, _, _, _, _, _, _, _, _] _ _
  have h1 := h1 u v
  have h2 := h2 u v
  have hq1 := hq u
  have hq2 := hq v
  have hsz := size1_is xs
  generalize size1 xs = size at h1 h2 hq1 hq2 hsz hq
  have s2 : 2 ≤ size := by lia
  have s4 : size ≤ 4 := by lia
  -- backwards
  refine Ex.cons (Ex1.assignComp 3 ["k"] [0] [intsP xs] rfl hnd rfl (by kernel_rfl) ⟨rfl, trivial⟩ (Ev.call (Ev.glob (g_range L) rfl) (KeepOk.type _) (.cons Ev.int (.cons (Ev.bin (Ev.call (Ev.glob (g_len L) rfl) (KeepOk.builtin _) (.cons (Ev.name 0 rfl rfl) .nil) hlen) Ev.int BinG.add) .nil)) FnG.range2) (IterG.range (by decide) (by decide) ⟨Int.le_trans hxl.1 (Int.le_add_of_nonneg_right (by decide)), Int.lt_of_le_of_lt (Int.add_le_add_right (Int.ofNat_le.mpr hx) 1) (by decide)⟩ (by decide))
    (CTurns.map vInt (fun k => vInt (xs.getD (-k + xs.length).toNat 0)) (fun o => [(match o with | some k => .val (vInt k) | none => .un), .val (intsP xs)]) (fun o k => Asg.name 0 rfl (by decide) rfl) _ none (fun k hk => ?_)) ?_) (Ex.freeze 3 rfl rfl ?_)
  · have hk' := mem_rangeL hk
    exact Ev.sub (Ev.name 1 rfl rfl) (Ev.neg (Ev.name 0 rfl rfl)) (SubG.itemNeg (by lia) (by rw [hlx]; lia) (by lia) (by rw [hlx]; exact get_int (by lia)))
  · rw [List.length_map, sizeLine_eq]
    have := rangeL_length' 1 (xs.length + 1) (by decide)
    lia
  show Ex C _ _ [_, _, _, _, _, _, _, _, _, _, _, _, _, _, _, _, _, _] _ _
  rw [show ((rangeL 1 (xs.length + 1) 1).map fun k => vInt (xs.getD (-k + xs.length).toNat 0)) = (backOf xs).map vInt from by unfold backOf; rw [List.map_map]; rfl]
  have hlb : (backOf xs).length ≤ 64 := by
    unfold backOf; rw [List.length_map]
    have := rangeL_length' 1 (xs.length + 1) (by decide)
    lia
  -- firsts, lasts
  refine Ex.cons (Ex1.assignComp (l := (firsts1 xs).map vInt) 4 ["number"] [] [] rfl hnd rfl (by kernel_rfl) trivial ((Ev.sub (EvL.ev (EvL.add (Ev.name 0 rfl rfl) (EvL.ev (EvL.list (.cons Ev.int (.cons Ev.int (.cons Ev.int (.cons Ev.int (.cons Ev.int (.cons Ev.int .nil)))))))) ?_)) (Ev.slice .none (.some Ev.int)) (SubG.cutL ?_)).conv (q := intsP (cut (xs ++ [6, 5, 0, 9, 14, 3]) none (some 6))) ?_) IterG.list
    (by
      unfold firsts1
      rw [List.map_map]
      exact CTurns.map vInt (vInt ∘ fun x => x % 60) (fun o => [(match o with | some k => .val (vInt k) | none => .un)]) (fun o k => Asg.name 0 rfl (by decide) rfl) _ none (fun k hk => Ev.bin (Ev.name 0 rfl rfl) Ev.int (BinG.mod (by decide)))) ?_) (Ex.freeze 4 rfl rfl ?_)
  · rw [hlx, sizeLine_eq]; simp only [List.length_cons, List.length_nil]; lia
  · rw [List.length_append, hlx, sizeLine_eq]; simp only [List.length_cons, List.length_nil]; lia
  · show vLst (cut (xs.map vInt ++ [6, 5, 0, 9, 14, 3].map vInt) none (some 6)) = _
    rw [← List.map_append, cut_map]
  · rw [List.length_map, show (firsts1 xs).length = 6 from by unfold firsts1; rw [List.length_map]; exact six_of _ _ rfl]; decide
  show Ex C _ _ [_, _, _, _, _, _, _, _, _, _, _, _, _, _, _, _, _, _] _ _
  refine Ex.cons (Ex1.assignComp (l := (lasts1 xs).map vInt) 5 ["number"] [] [] rfl hnd rfl (by kernel_rfl) trivial ((Ev.sub (EvL.ev (EvL.add (Ev.name 3 rfl rfl) (EvL.ev (EvL.list (.cons Ev.int (.cons Ev.int (.cons Ev.int (.cons Ev.int (.cons Ev.int (.cons Ev.int .nil)))))))) ?_)) (Ev.slice .none (.some Ev.int)) (SubG.cutL ?_)).conv (q := intsP (cut (backOf xs ++ [10, 7, 4, 1, 12, 8]) none (some 6))) ?_) IterG.list
    (by
      unfold lasts1
      rw [List.map_map]
      exact CTurns.map vInt (vInt ∘ fun x => x % 60) (fun o => [(match o with | some k => .val (vInt k) | none => .un)]) (fun o k => Asg.name 0 rfl (by decide) rfl) _ none (fun k hk => Ev.bin (Ev.name 0 rfl rfl) Ev.int (BinG.mod (by decide)))) ?_) (Ex.freeze 5 rfl rfl ?_)
  · rw [List.length_map, sizeLine_eq]; simp only [List.length_cons, List.length_nil]; lia
  · rw [List.length_append, List.length_map, sizeLine_eq]; simp only [List.length_cons, List.length_nil]; lia
  · show vLst (cut ((backOf xs).map vInt ++ [10, 7, 4, 1, 12, 8].map vInt) none (some 6)) = _
    rw [← List.map_append, cut_map]
  · rw [List.length_map, show (lasts1 xs).length = 6 from by unfold lasts1; rw [List.length_map]; exact six_of _ _ rfl]; decide
  show Ex C _ _ [_, _, _, _, _, _, _, _, _, _, _, _, _, _, _, _, _, _] _ _
  have hf6 : (firsts1 xs).length = 6 := by unfold firsts1; rw [List.length_map]; exact six_of _ _ rfl
  have hl6 : (lasts1 xs).length = 6 := by unfold lasts1; rw [List.length_map]; exact six_of _ _ rfl
  have two : ∀ {a b : VP}, [a, b].length ≤ sizeLine := by intro a b; show 2 ≤ sizeLine; rw [sizeLine_eq]; decide
  obtain ⟨k1, R1⟩ := h1
  obtain ⟨k2, R2⟩ := h2
  -- leads, tails, levels
  refine Ex.cons (Ex1.assignComp (l := [u, v].map fun w => vS (lead1 w)) 6 ["value"] [] [] rfl hnd rfl (by kernel_rfl) trivial (Ev.name 1 rfl rfl) IterG.list
    (CTurns.map vInt (fun w => vS (lead1 w)) (fun o => [(match o with | some k => .val (vInt k) | none => .un)]) (fun o k => Asg.name 0 rfl (by decide) rfl) [u, v] none (fun w _ => Ev.call (Ev.glob (L.fn (by kernel_rfl)) rfl) (L.keep (by kernel_rfl)) (.cons (Ev.name 0 rfl rfl) .nil) ((lead_fn (n := 0) L w).le (Nat.le_add_left _ _)))) two) (Ex.freeze 6 rfl rfl ?_)
  show Ex C _ _ [_, _, _, _, _, _, _, _, _, _, _, _, _, _, _, _, _, _] _ _
  refine Ex.cons (Ex1.assignComp (l := [u, v].map fun w => vS (tail1 w)) 7 ["value"] [] [] rfl hnd rfl (by kernel_rfl) trivial (Ev.name 1 rfl rfl) IterG.list
    (CTurns.map vInt (fun w => vS (tail1 w)) (fun o => [(match o with | some k => .val (vInt k) | none => .un)]) (fun o k => Asg.name 0 rfl (by decide) rfl) [u, v] none (fun w _ => ?_)) two) (Ex.freeze 7 rfl rfl ?_)
  · have m0 := Int.emod_nonneg (w / 64) (b := 4) (by decide)
    have m1 := Int.emod_lt_of_pos (w / 64) (b := 4) (by decide)
    refine Ev.sub (EvL.ev (EvL.list (.cons (Ev.s [120] rfl) (.cons (Ev.s [] rfl) (.cons (Ev.s [120, 9] rfl) (.cons (Ev.s [120, 32, 9, 121] rfl) .nil)))))) (Ev.bin (Ev.bin (Ev.name 0 rfl rfl) Ev.int (BinG.div (by decide) (by decide))) Ev.int (BinG.mod (by decide))) (SubG.item m0 (Int.lt_trans m1 (by decide)) ?_)
    unfold tail1
    generalize w / 64 % 4 = j at m0 m1
    have : j = 0 ∨ j = 1 ∨ j = 2 ∨ j = 3 := by lia
    rcases this with rfl | rfl | rfl | rfl <;> rfl
  show Ex C _ _ [_, _, _, _, _, _, _, _, _, _, _, _, _, _, _, _, _, _] _ _
  refine Ex.cons (Ex1.assignComp (l := [u, v].map fun w => vInt (colWalk size (lead1 w))) 8 ["lead"] [2] [vInt size] rfl hnd rfl (by kernel_rfl) ⟨rfl, trivial⟩ (Ev.name 6 rfl rfl) IterG.list
    (CTurns.map (fun w => vS (lead1 w)) (fun w => vInt (colWalk size (lead1 w))) (fun o => [(match o with | some w => .val (vS (lead1 w)) | none => .un), .val (vInt size)]) (fun o k => Asg.name 0 rfl (by decide) rfl) [u, v] none (fun w _ => Ev.call (Ev.glob (L.fn (by kernel_rfl)) rfl) (L.keep (by kernel_rfl)) (.cons (Ev.name 0 rfl rfl) (.cons (Ev.name 1 rfl rfl) .nil)) ((column_fn (n := 0) L (lead1 w) size (by lia)).le (Nat.le_add_left _ _)))) two) (Ex.freeze 8 rfl rfl ?_)
  show Ex C _ _ [_, _, _, _, _, _, _, _, _, _, _, _, _, _, _, _, _, _] _ _
  have hjoin : ∀ (f : Int → List Nat), (∀ w, (f w).length ≤ 100) → FnG C (n + 6) (.builtin "str.join") [vS [10], vLst ([u, v].map fun w => vS (f w))] (vS (joinOn 10 [f u, f v])) := fun f hf => FnG.join (L := [f u, f v]) (by have := hf u; have := hf v; rw [sizeLine_eq]; simp only [List.map_cons, List.map_nil, List.sum_cons, List.sum_nil, List.length_cons, List.length_nil]; lia)
  have hsl : ∀ w, (shortOf size (colWalk size (lead1 w))).length ≤ 16 := fun w => by
    have c0 := (hq w).c0
    have c1 := (hq w).c1
    have d1 : colWalk size (lead1 w) / size ≤ colWalk size (lead1 w) := Int.ediv_le_self _ c0
    have m1 : colWalk size (lead1 w) % size < size := Int.emod_lt_of_pos _ (by lia)
    unfold shortOf; rw [List.length_append, List.length_replicate, List.length_replicate]; lia
  -- plain
  refine Ex.cons (Ex1.assign (p := vS (joinOn 10 [List.replicate (colWalk size (lead1 u)).toNat 32 ++ tail1 u, List.replicate (colWalk size (lead1 v)).toNat 32 ++ tail1 v])) 11 rfl hnd rfl (Ev.methStr (Ev.s [10] rfl) (.cons (EvL.ev (EvL.compOfIt (l := [u, v].map fun w => vS (List.replicate (colWalk size (lead1 w)).toNat 32 ++ tail1 w)) ["level", "tail"] [] [] (by kernel_rfl) trivial (zip_two (fun w => vInt (colWalk size (lead1 w))) (fun w => vS (tail1 w)) [u, v] (Ev.glob (g_zip L) rfl) (Ev.name 8 rfl rfl) (Ev.name 7 rfl rfl) rfl)
    (CTurns.map (fun w => vTup [vInt (colWalk size (lead1 w)), vS (tail1 w)]) (fun w => vS (List.replicate (colWalk size (lead1 w)).toNat 32 ++ tail1 w)) (fun o => [(match o with | some w => .val (vInt (colWalk size (lead1 w))) | none => .un), (match o with | some w => .val (vS (tail1 w)) | none => .un)]) (fun o w => Asg.tuple (Names.cons 0 rfl rfl (Names.cons 1 rfl rfl Names.nil)) (by decide)) [u, v] none (fun w _ => ?_)) two)) .nil)
    (hjoin (fun w => List.replicate (colWalk size (lead1 w)).toNat 32 ++ tail1 w) (fun w => by have := (hq w).c1; have := (hq w).tl; rw [List.length_append, List.length_replicate]; lia)) PySem.F.slot_str_join PySem.F.type_str_join)) ?_
  · have c0 := (hq w).c0
    have c1 := (hq w).c1
    have tl := (hq w).tl
    exact Ev.bin (Ev.bin (Ev.s [32] rfl) (Ev.name 0 rfl rfl) (BinG.mulS (by lia) (by lia))) (Ev.name 1 rfl rfl) (BinG.addS (by rw [List.length_replicate, sizeLine_eq]; lia))
  show Ex C _ _ [_, _, _, _, _, _, _, _, _, _, _, _, _, _, _, _, _, _] _ _
  -- short
  refine Ex.cons (Ex1.assignComp (l := [u, v].map fun w => vS (shortOf size (colWalk size (lead1 w)))) 12 ["level"] [2] [vInt size] rfl hnd rfl (by kernel_rfl) ⟨rfl, trivial⟩ (Ev.name 8 rfl rfl) IterG.list
    (CTurns.map (fun w => vInt (colWalk size (lead1 w))) (fun w => vS (shortOf size (colWalk size (lead1 w)))) (fun o => [(match o with | some w => .val (vInt (colWalk size (lead1 w))) | none => .un), .val (vInt size)]) (fun o k => Asg.name 0 rfl (by decide) rfl) [u, v] none (fun w _ => ?_)) two) (Ex.freeze 12 rfl rfl ?_)
  · have c0 := (hq w).c0
    have c1 := (hq w).c1
    have d1 : colWalk size (lead1 w) / size ≤ colWalk size (lead1 w) := Int.ediv_le_self _ c0
    have d0 : 0 ≤ colWalk size (lead1 w) / size := Int.ediv_nonneg c0 (by lia)
    have m1 : colWalk size (lead1 w) % size < size := Int.emod_lt_of_pos _ (by lia)
    have m0 : 0 ≤ colWalk size (lead1 w) % size := Int.emod_nonneg _ (by lia)
    exact Ev.bin (Ev.bin (Ev.s [9] rfl) (Ev.bin (Ev.name 0 rfl rfl) (Ev.name 1 rfl rfl) (BinG.div (by lia) (by lia))) (BinG.mulS (by lia) (by lia))) (Ev.bin (Ev.s [32] rfl) (Ev.bin (Ev.name 0 rfl rfl) (Ev.name 1 rfl rfl) (BinG.mod (by lia))) (BinG.mulS (by lia) (by lia))) (BinG.addS (by rw [List.length_replicate, List.length_replicate, sizeLine_eq]; lia))
  show Ex C _ _ [_, _, _, _, _, _, _, _, _, _, _, _, _, _, _, _, _, _] _ _
  -- the two runs
  have F1 := lawRun_fn (n := n) L T1 T2 _ size (firsts1 xs) _ false _ (by lia) (by lia) hf6 k1 R1
  have F2 := lawRun_fn (n := n) L T1 T2 _ size (lasts1 xs) _ true _ (by lia) (by lia) hl6 k2 R2
  refine Ex.cons (Ex1.iff (c := false) ((EvB.cmp (Ev.call (Ev.glob (L.fn (by kernel_rfl)) rfl) (L.keep (by kernel_rfl)) (.cons (Ev.methStr (Ev.s [10] rfl) (.cons (EvL.ev (EvL.compOfIt (l := [u, v].map fun w => vS (lead1 w ++ tail1 w)) ["lead", "tail"] [] [] (by kernel_rfl) trivial (zip_two (fun w => vS (lead1 w)) (fun w => vS (tail1 w)) [u, v] (Ev.glob (g_zip L) rfl) (Ev.name 6 rfl rfl) (Ev.name 7 rfl rfl) rfl)
    (CTurns.map (fun w => vTup [vS (lead1 w), vS (tail1 w)]) (fun w => vS (lead1 w ++ tail1 w)) (fun o => [(match o with | some w => .val (vS (lead1 w)) | none => .un), (match o with | some w => .val (vS (tail1 w)) | none => .un)]) (fun o w => Asg.tuple (Names.cons 0 rfl rfl (Names.cons 1 rfl rfl Names.nil)) (by decide)) [u, v] none (fun w _ => Ev.bin (Ev.name 0 rfl rfl) (Ev.name 1 rfl rfl) (BinG.addS (by have := (hq w).ll; have := (hq w).tl; rw [sizeLine_eq]; lia)))) two)) .nil)
    (hjoin (fun w => lead1 w ++ tail1 w) (fun w => by have := (hq w).ll; have := (hq w).tl; rw [List.length_append]; lia)) PySem.F.slot_str_join PySem.F.type_str_join) (.cons (Ev.name 2 rfl rfl) (.cons (Ev.name 4 rfl rfl) (.cons (Ev.name 8 rfl rfl) (.cons Ev.bool .nil))))) F1) (Ev.name 11 rfl rfl) CmpG.neS).conv (decide_eq_false (fun h => h rfl))) (fun h => nomatch h) (fun _ => Ex.nil)) ?_
  show Ex C _ _ [_, _, _, _, _, _, _, _, _, _, _, _, _, _, _, _, _, _] _ _
  refine Ex.cons (Ex1.iff (c := false) ((EvB.cmp (Ev.call (Ev.glob (L.fn (by kernel_rfl)) rfl) (L.keep (by kernel_rfl)) (.cons (Ev.name 11 rfl rfl) (.cons (Ev.name 2 rfl rfl) (.cons (Ev.name 5 rfl rfl) (.cons (Ev.name 8 rfl rfl) (.cons Ev.bool .nil))))) F2) (Ev.methStr (Ev.s [10] rfl) (.cons (EvL.ev (EvL.compOfIt (l := [u, v].map fun w => vS (shortOf size (colWalk size (lead1 w)) ++ tail1 w)) ["lead", "tail"] [] [] (by kernel_rfl) trivial (zip_two (fun w => vS (shortOf size (colWalk size (lead1 w)))) (fun w => vS (tail1 w)) [u, v] (Ev.glob (g_zip L) rfl) (Ev.name 12 rfl rfl) (Ev.name 7 rfl rfl) rfl)
    (CTurns.map (fun w => vTup [vS (shortOf size (colWalk size (lead1 w))), vS (tail1 w)]) (fun w => vS (shortOf size (colWalk size (lead1 w)) ++ tail1 w)) (fun o => [(match o with | some w => .val (vS (shortOf size (colWalk size (lead1 w)))) | none => .un), (match o with | some w => .val (vS (tail1 w)) | none => .un)]) (fun o w => Asg.tuple (Names.cons 0 rfl rfl (Names.cons 1 rfl rfl Names.nil)) (by decide)) [u, v] none (fun w _ => Ev.bin (Ev.name 0 rfl rfl) (Ev.name 1 rfl rfl) (BinG.addS (by have := hsl w; have := (hq w).tl; rw [sizeLine_eq]; lia)))) two)) .nil)
    (hjoin (fun w => shortOf size (colWalk size (lead1 w)) ++ tail1 w) (fun w => by have := hsl w; have := (hq w).tl; rw [List.length_append]; lia)) PySem.F.slot_str_join PySem.F.type_str_join) CmpG.neS).conv (decide_eq_false (fun h => h rfl))) (fun h => nomatch h) (fun _ => Ex.nil)) ?_
  show Ex C _ _ [_, _, _, _, _, _, _, _, _, _, _, _, _, _, _, _, _, _] _ _
  -- the rows
  refine Ex.cons (Ex1.forIt (zip_four (fun w => vS (lead1 w)) (fun w => vS (shortOf size (colWalk size (lead1 w)))) (fun w => vInt (colWalk size (lead1 w))) (fun w => vS (tail1 w)) [u, v] (Ev.glob (g_zip L) rfl) (Ev.name 6 rfl rfl) (Ev.name 12 rfl rfl) (Ev.name 8 rfl rfl) (Ev.name 7 rfl rfl) rfl)
    (Turns.next (Asg.tuple (Names.cons 13 rfl rfl (Names.cons 14 rfl rfl (Names.cons 9 rfl rfl (Names.cons 10 rfl rfl Names.nil)))) hnd) (hturn size (lead1 u) (tail1 u) _ s2 s4 hq1 _ _ _ _ _ _ _ _ _ _) (Turns.next (Asg.tuple (Names.cons 13 rfl rfl (Names.cons 14 rfl rfl (Names.cons 9 rfl rfl (Names.cons 10 rfl rfl Names.nil)))) hnd) (hturn size (lead1 v) (tail1 v) _ s2 s4 hq2 _ _ _ _ _ _ _ _ _ _) .nil))) ?_
  exact Ex.one (Ex1.ret Ev.bool)

end
end Mine

open PySem PySem.W PyProof.Rows
set_option tactic.hygienic true
theorem Mine.as1_eq (P : Params) : Mine.as1 = (Mine.K1 P).map (·.1) := rfl
set_option maxRecDepth 100000 in
set_option maxHeartbeats 8000000 in
theorem PySem.Challenge.cw_mr0221_01_holds : PySem.Challenge.rw_mr0221_01.Holds := by
  w_on
  o_law
  o_head (kmHook Mine.K1 Mine.as1 Mine.as1_eq [124, 131])
  case hw => w_witness2
  intro w s₀ s₁ mg mb G Y fa o pm cd doc dV kV ho hd hcd hD hmg hg args vals as hpre hlay hrd hwl hlo
  have KX := km_in_of Y
  have hT8 := km_tabs_of Y
  have X := (Ground.X G).1
  have V := (Ground.X G).2
  refine Ground.open G ?_
  intro T B D TE TW
  try (refine guard_noD D (by decide +kernel) ?_; clear D)
  have hT9 : TabsAt ([(128, 124), (135, 131)] : List (Addr × Addr)) s₁.heap := List.forall_mem_cons.mpr ⟨⟨codeHd_of_K (c := 128) (P := 124) KX (by kernel_rfl), hT8 124 (.head _)⟩, List.forall_mem_cons.mpr ⟨⟨codeHd_of_K (c := 135) (P := 131) KX (by kernel_rfl), hT8 131 (.tail _ (.head _))⟩, fun _ h => nomatch h⟩⟩
  wrow_args hpre hlay hrd hwl hlo
  rename_i xs _ _ _ _ _ _ _ La _ _ _ _ hW _ _ _ hc _
  refine enter_call ?_
  w_top on
  kn_posts
  have KG := ghost_K hT9 KX (by kernel_rfl)
  have LG : Mine.LawG ⟨PySem.Challenge.rw_mr0221_01.row.prog, w, ghostOf s₁.heap [(128, 124), (135, 131)], [Mine.hitTab (Mine.K1 w.params) 129 128 124, Mine.progTab (Mine.K1 w.params) 136 135 131], s₁.gens, s₁.os⟩ (Mine.K1 w.params) mg := by
    have TT := ghost_top hT9 T
    exact ⟨KG, TT.nolimit, TT.g, TT.bmain, mb, TT.b, TT.builtins⟩
  have hfa : fa = 151 := by
    have e1 := mg_of KX T.g (n := "law") (v := .ref 151) (by kernel_rfl)
    exact Value.ref.inj (Option.some.inj (hmg.symm.trans e1))
  subst hfa
  have hsz := Mine.size1_is xs
  refine Mine.law_end (specs := [Mine.hitTab (Mine.K1 w.params) 129 128 124, Mine.progTab (Mine.K1 w.params) 136 135 131]) hT9 rfl hg (Mine.start_list hT9 hW) (Mine.law_code (n := 13) LG ?_ ?_ xs ?_ (fun u v => ⟨_, Mine.run_first hsz u v⟩) (fun u v => ⟨_, Mine.run_second hsz u v⟩) (Mine.quad_ok hsz)) ?_ ?_
  · refine LG.maker (.head _) (fun t' ht' hP => ?_) (ghost_code hT9).1
    rcases List.mem_cons.mp ht' with rfl | ht'
    · rfl
    · cases List.mem_singleton.mp ht'; exact absurd (show (131 : Nat) = 124 from hP) (by decide)
  · refine LG.maker (.tail _ (.head _)) (fun t' ht' hP => ?_) (ghost_code hT9).2.1
    rcases List.mem_cons.mp ht' with rfl | ht'
    · exact absurd (show (124 : Nat) = 131 from hP) (by decide)
    · cases List.mem_singleton.mp ht'; rfl
  · omega
  · first | kernel_rfl | with_unfolding_all rfl
  · intro cls; rfl
