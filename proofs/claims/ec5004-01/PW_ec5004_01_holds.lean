import PyProof.Rows.All
import Wide.All
import OpenK.AllK
import Wide.FinOn
import Lean
import PySem.Challenge.RW_ec5004_01
set_option Elab.async false
open PySem PySem.W PyProof.Rows
set_option Elab.async false
set_option maxRecDepth 100000
set_option maxHeartbeats 8000000
open_top hd1 for PySem.Challenge.rw_ec5004_01

namespace Mine
open PySem PySem.W PySem.Calls PyProof.Rows
set_option Elab.async false

/-- the same but for the heap and the token counter -/
def Same (s s' : Shared) : Prop := ∃ h tk, s' = { s with heap := h, toks := tk }
theorem Same.rfl' (s : Shared) : Same s s := ⟨s.heap, s.toks, rfl⟩
theorem Same.mk' (s : Shared) (h : Heap) (tk : Tok) : Same s { s with heap := h, toks := tk } := ⟨h, tk, rfl⟩
theorem Same.trans {a b c : Shared} (x : Same a b) (y : Same b c) : Same a c := by
  obtain ⟨h, t, rfl⟩ := x; obtain ⟨h', t', rfl⟩ := y; exact ⟨h', t', rfl⟩

abbrev Ext (h h' : Heap) : Prop := ∀ b o, h.get? b = some o → h'.get? b = some o
theorem Ext.refl (h : Heap) : Ext h h := fun _ _ e => e
theorem Ext.trans {a b c : Heap} (x : Ext a b) (y : Ext b c) : Ext a c := fun d o e => y d o (x d o e)

/-- t runs from h without an exception to Q -/
def Wp (M : Model) (A : Around) {α : Type} (t : Sem α) (Q : α → Heap → Prop) (h : Heap) : Prop :=
  ∀ (s : Shared) (E : Value → Shared → Prop), s.heap = h → wpAny M A t (fun a s' => Same s s' ∧ Q a s'.heap) E s

def Cp (M : Model) (A : Around) (c : Code) (Q : Flow → Heap → Prop) (h : Heap) : Prop :=
  ∀ (s : Shared), s.heap = h → codeAny M A c (fun r s' => ∃ f, r = .ok f ∧ Same s s' ∧ Q f s'.heap) s

section
variable {M : Model} {A : Around} {α β : Type} {h : Heap}

theorem Wp.out {t : Sem α} {Q : α → Heap → Prop} {Q' : α → Shared → Prop} {s : Shared} {E : Value → Shared → Prop} (H : Wp M A t Q h) (hs : s.heap = h)
    (k : ∀ a s', Same s s' → Q a s'.heap → Q' a s') : wpAny M A t Q' E s :=
  wpAny_mono (H s E hs) (fun a s' x => k a s' x.1 x.2) fun _ _ e => e

theorem Wp.mono {t : Sem α} {Q Q' : α → Heap → Prop} (H : Wp M A t Q h) (k : ∀ a h', Q a h' → Q' a h') : Wp M A t Q' h :=
  fun _ _ hs => H.out hs fun a _ e q => ⟨e, k a _ q⟩

theorem Cp.out {c : Code} {Q : Flow → Heap → Prop} {R : Result → Shared → Prop} {s : Shared} (H : Cp M A c Q h) (hs : s.heap = h)
    (k : ∀ f s', Same s s' → Q f s'.heap → R (.ok f) s') : codeAny M A c R s :=
  codeAny_mono (H s hs) fun _ s' ⟨f, e, x, y⟩ => by subst e; exact k f s' x y

theorem Cp.mono {c : Code} {Q Q' : Flow → Heap → Prop} (H : Cp M A c Q h) (k : ∀ a h', Q a h' → Q' a h') : Cp M A c Q' h :=
  fun _ hs => H.out hs fun a _ e q => ⟨a, rfl, e, k a _ q⟩

theorem Wp_pure {a : α} {Q : α → Heap → Prop} (H : Q a h) : Wp M A (pure a) Q h :=
  fun s _ hs => wpAny_pure ⟨Same.rfl' s, hs ▸ H⟩
theorem Wp_bind {m : Sem α} {f : α → Sem β} {Q : β → Heap → Prop} (H : Wp M A m (fun a h' => Wp M A (f a) Q h') h) : Wp M A (m >>= f) Q h :=
  fun _ _ hs => wpAny_bind (H.out hs fun _ _ e q => q.out rfl fun _ _ e' q' => ⟨e.trans e', q'⟩)
theorem Wp_standAt {pos : Pos} {Q : Unit → Heap → Prop} (H : Q () h) : Wp M A (standAt pos) Q h := fun s _ hs => wpAny_standAt ⟨Same.rfl' s, hs ▸ H⟩
theorem Wp_holding {vs : List Value} {m : Sem α} {Q : α → Heap → Prop} (H : Wp M A m Q h) : Wp M A (holding vs m) Q h := fun s E hs => wpAny_holding (H s E hs)
theorem Wp_of_eq {t u : Sem α} {Q : α → Heap → Prop} (e : t = u) (H : Wp M A u Q h) : Wp M A t Q h := by subst e; exact H
end


open PySem PySem.W PySem.Calls PyProof.Rows
set_option Elab.async false

inductive At2 : List Str → List (Option Value) → Str → Value → Prop
  | head {x xs v vs} : At2 (x :: xs) (some v :: vs) x v
  | tail {x y v xs o vs} : At2 xs vs x v → At2 (y :: xs) (o :: vs) x v
inductive Put2 : List Str → List (Option Value) → Str → Value → List (Option Value) → Prop
  | head {x xs o v vs} : Put2 (x :: xs) (o :: vs) x v (some v :: vs)
  | tail {x y v xs o vs vs'} : Put2 xs vs x v vs' → Put2 (y :: xs) (o :: vs) x v (o :: vs')

theorem At2.mem {xs vs x v} (a : At2 xs vs x v) : x ∈ xs := by
  induction a with
  | head => exact .head _
  | tail _ ih => exact .tail _ ih
theorem Put2.mem {xs vs x v vs'} (a : Put2 xs vs x v vs') : x ∈ xs := by
  induction a with
  | head => exact .head _
  | tail _ ih => exact .tail _ ih
theorem Put2.at {xs vs x v vs'} (p : Put2 xs vs x v vs') (nd : xs.Nodup) : ∀ {y u}, At2 xs vs' y u → (y = x ∧ u = v) ∨ (y ≠ x ∧ At2 xs vs y u) := by
  induction p with
  | head =>
    intro y u a
    cases a with
    | head => exact .inl ⟨rfl, rfl⟩
    | tail a => exact .inr ⟨fun e => (List.nodup_cons.mp nd).1 (e ▸ a.mem), .tail a⟩
  | tail p ih =>
    intro y u a
    cases a with
    | head => exact .inr ⟨fun e => (List.nodup_cons.mp nd).1 (e ▸ p.mem), .head⟩
    | tail a =>
      rcases ih (List.nodup_cons.mp nd).2 a with h | ⟨h, b⟩
      · exact .inl h
      · exact .inr ⟨h, .tail b⟩

/-- what stands at an address -/
inductive Cn where
  | list (xs : List Value)
  | ilist (xs : List Value)
  | tup (xs : List Value)
  | liter (l : Addr) (i : Nat)
  | titer (l : Addr) (i : Nat)
  | riter (x left : Int)
  | riters (x left c : Int)
  | obj (o : Obj)
def Cn.ok : Cn → Obj → Prop
  | .list xs, o => ∃ n, o = { cls := .type "list", data := .seq xs.toArray n }
  | .ilist xs, o => o.cls = .type "list" ∧ ∃ n, o.data = .seq xs.toArray n
  | .tup xs, o => ∃ n, o = { cls := .type "tuple", data := .seq xs.toArray n }
  | .liter l i, o => o.cls = .type "list_iterator" ∧ o.data = .fields #[.ref l, .int i 0]
  | .titer l i, o => o.cls = .type "tuple_iterator" ∧ o.data = .fields #[.ref l, .int i 0]
  | .riter x left, o => o = { cls := .type "range_iterator", dict := none, data := .fields #[rawInt x, rawInt left, rawInt 1], slots := #[] }
  | .riters x left c, o => o = { cls := .type "range_iterator", dict := none, data := .fields #[rawInt x, rawInt left, rawInt c], slots := #[] }
  | .obj o', o => o = o'
def IsAt (h : Heap) (a : Addr) (c : Cn) : Prop := ∃ o, h.get? a = some o ∧ c.ok o
theorem IsAt.ext {h h' : Heap} {a c} (x : IsAt h a c) (e : Ext h h') : IsAt h' a c := let ⟨o, p, q⟩ := x; ⟨o, e _ _ p, q⟩
theorem IsAt.but {h h' : Heap} {a b c} (x : IsAt h a c) (e : Heap.ExtBut b h h') (n : a ≠ b) : IsAt h' a c := let ⟨o, p, q⟩ := x; ⟨o, e _ _ n p, q⟩
theorem IsAt.isList {h : Heap} {a xs} (x : IsAt h a (.list xs)) : h.IsList a xs.toArray := let ⟨_, p, n, q⟩ := x; ⟨_, p, by rw [q], n, by rw [q]⟩
theorem IsAt.isIList {h : Heap} {a xs} (x : IsAt h a (.ilist xs)) : h.IsList a xs.toArray := let ⟨_, p, q, r⟩ := x; ⟨_, p, q, r⟩
theorem IsAt.weakL {h : Heap} {a xs} (x : IsAt h a (.list xs)) : IsAt h a (.ilist xs) := let ⟨o, p, q⟩ := x.isList; ⟨o, p, q⟩
theorem IsAt.plain {h : Heap} {a xs} (x : IsAt h a (.list xs)) : h.PlainList a xs.toArray := let ⟨_, p, n, q⟩ := x; ⟨n, q ▸ p⟩
theorem IsAt.ofPlain {h : Heap} {a} {xs : List Value} (x : h.PlainList a xs.toArray) : IsAt h a (.list xs) := let ⟨n, p⟩ := x; ⟨_, p, n, rfl⟩
theorem IsAt.isTuple {h : Heap} {a xs} (x : IsAt h a (.tup xs)) : h.IsTuple a xs.toArray := let ⟨_, p, n, q⟩ := x; ⟨_, p, by rw [q], n, by rw [q]⟩
theorem IsAt.some {h : Heap} {a c} (x : IsAt h a c) : ∃ o, h.get? a = some o := let ⟨o, p, _⟩ := x; ⟨o, p⟩

inductive LPut : List (Addr × Cn) → Addr → Cn → List (Addr × Cn) → Prop
  | head {a c c' N} : LPut ((a, c) :: N) a c' ((a, c') :: N)
  | tail {p a c' N N'} : LPut N a c' N' → LPut (p :: N) a c' (p :: N')
theorem LPut.keys {N a c N'} (p : LPut N a c N') : N'.map (·.1) = N.map (·.1) := by
  induction p with
  | head => rfl
  | tail _ ih => simp [ih]
theorem LPut.memKey {N a c N'} (p : LPut N a c N') : a ∈ N.map (·.1) := by
  induction p with
  | head => exact .head _
  | tail _ ih => exact .tail _ ih
theorem LPut.mem {N a c N'} (p : LPut N a c N') (nd : (N.map (·.1)).Nodup) : ∀ q ∈ N', q = (a, c) ∨ (q.1 ≠ a ∧ q ∈ N) := by
  induction p with
  | head =>
    intro q hq
    rcases List.mem_cons.mp hq with h | h
    · exact .inl h
    · exact .inr ⟨fun e => (List.nodup_cons.mp nd).1 (by have := List.mem_map_of_mem (f := (·.1)) h; rwa [e] at this), .tail _ h⟩
  | tail p ih =>
    intro q hq
    rcases List.mem_cons.mp hq with h | h
    · subst h; exact .inr ⟨fun e => (List.nodup_cons.mp nd).1 (by have := p.memKey; rwa [← e] at this), .head _⟩
    · rcases ih (List.nodup_cons.mp nd).2 q h with h | ⟨h, b⟩
      · exact .inl h
      · exact .inr ⟨h, .tail _ b⟩

/-- what of the world does not change -/
structure Wd (K : Frag) (h : Heap) : Prop where
  K : K.In h
  lim : h.NoLimit
  gb : ∃ mg mb, h.Ns mainGlobals mg ∧ h.Ns builtinsNs mb ∧ ∀ x : Str, x ≠ "__name__" → mb x = bootBuiltins x
theorem Wd.ext {K : Frag} {h h' : Heap} (x : Wd K h) (e : Ext h h') : Wd K h' :=
  ⟨x.K.keeps e, x.lim.keeps e, let ⟨mg, mb, a, b, c⟩ := x.gb; ⟨mg, mb, a.keeps e, b.keeps e, c⟩⟩

structure St (K : Frag) (g : Heap) (env : Env) (vars : List Str) (vals : List (Option Value)) (caps : List (Str × Value)) (N : List (Addr × Cn)) (h : Heap) : Prop where
  wd : Wd K g
  keep : Ext g h
  kfun : env.scope.kind = .function
  gl : env.globals = mainGlobals
  bu : env.builtins = builtinsNs
  nod : vars.Nodup
  hidL : g.get? env.locals = none
  ns : ∃ m, h.Ns env.locals m ∧ ∀ x v, At2 vars vals x v → env.kindOf x = some .local → m x = some v
  kind : ∀ x ∈ vars, env.kindOf x = some .local ∨ (env.kindOf x = some .cell ∧ ∃ c u, env.cells.lookup x = some c ∧ c ≠ env.locals ∧ g.get? c = none ∧ h.IsCell c u ∧ ∀ v, At2 vars vals x v → u = some v)
  apart : ∀ x ∈ vars, ∀ y ∈ vars, ∀ c, env.kindOf x = some .cell → env.kindOf y = some .cell → env.cells.lookup x = some c → env.cells.lookup y = some c → x = y
  caps : ∀ p ∈ caps, (env.kindOf p.1 = some .cell ∨ env.kindOf p.1 = some .free) ∧ ∃ c, env.cells.lookup p.1 = some c ∧ g.IsCell c (some p.2)
  news : ∀ p ∈ N, IsAt h p.1 p.2 ∧ p.1 ≠ env.locals ∧ g.get? p.1 = none ∧ ∀ x ∈ vars, env.kindOf x = some .cell → env.cells.lookup x ≠ some p.1
  nodN : (N.map (·.1)).Nodup

section
variable {K : Frag} {g h h' : Heap} {env : Env} {vars : List Str} {vals vals' : List (Option Value)} {caps : List (Str × Value)} {N N' : List (Addr × Cn)} {a : Addr} {c : Cn}

theorem St.grow (S : St K g env vars vals caps N h) (e : Ext h h') : St K g env vars vals caps N h' :=
  { S with
    keep := S.keep.trans e
    ns := let ⟨m, x, y⟩ := S.ns; ⟨m, x.keeps e, y⟩
    kind := fun x hx => (S.kind x hx).imp id fun ⟨k, c, u, p, q, r, s, t⟩ => ⟨k, c, u, p, q, r, s.keeps e, t⟩
    news := fun p hp => let ⟨x, y⟩ := S.news p hp; ⟨x.ext e, y⟩ }

theorem St.locals_some (S : St K g env vars vals caps N h) : ∃ o, h.get? env.locals = some o := let ⟨_, ⟨o, _, _, x, _⟩, _⟩ := S.ns; ⟨o, x⟩

theorem St.push (S : St K g env vars vals caps N h) (e : Ext h h') (hf : h.get? a = none) (hc : IsAt h' a c) : St K g env vars vals caps ((a, c) :: N) h' := by
  have S' := S.grow e
  refine { S' with news := fun p hp => ?_, nodN := ?_ }
  · rcases List.mem_cons.mp hp with rfl | hp
    · refine ⟨hc, fun q => ?_, ?_, fun x hx hk hl => ?_⟩
      · obtain ⟨o, ho⟩ := S.locals_some; rw [← q] at ho; simp only at ho; rw [hf] at ho; cases ho
      · cases q : g.get? a with
        | none => rfl
        | some o => have := S.keep _ _ q; rw [hf] at this; cases this
      · rcases S.kind x hx with q | ⟨_, c', u, p, _, _, ⟨o, ho, _⟩, _⟩
        · rw [hk] at q; cases q
        · rw [hl] at p; cases p; simp only at ho; rw [hf] at ho; cases ho
    · exact S'.news p hp
  · refine List.nodup_cons.mpr ⟨fun q => ?_, S.nodN⟩
    obtain ⟨p, hp, e'⟩ := List.mem_map.mp q
    obtain ⟨o, ho⟩ := (S.news p hp).1.some
    rw [e', hf] at ho; cases ho

/-- a ledger object is changed -/
theorem St.upd (S : St K g env vars vals caps N h) (p : LPut N a c N') (e : Heap.ExtBut a h h') (hc : IsAt h' a c) : St K g env vars vals caps N' h' := by
  obtain ⟨q, hq, qa⟩ := List.mem_map.mp p.memKey
  obtain ⟨_, h2, h3, h4⟩ := S.news q hq
  rw [qa] at h2 h3 h4
  have kp : ∀ b o, b ≠ a → h.get? b = some o → h'.get? b = some o := e
  refine { S with keep := fun b o x => kp b o (fun z => by rw [z, h3] at x; cases x) (S.keep b o x), ns := ?_, kind := fun x hx => ?_, news := fun r hr => ?_, nodN := by rw [p.keys]; exact S.nodN }
  · obtain ⟨m, x, y⟩ := S.ns; exact ⟨m, x.extBut e (Ne.symm h2), y⟩
  · refine (S.kind x hx).imp id fun ⟨k, c', u, p', q', r, ⟨o, ho, hd⟩, t⟩ => ⟨k, c', u, p', q', r, ⟨o, kp _ _ (fun z => h4 x hx k (z ▸ p')) ho, hd⟩, t⟩
  · rcases p.mem S.nodN r hr with rfl | ⟨n, hm⟩
    · exact ⟨hc, h2, h3, h4⟩
    · obtain ⟨x, y⟩ := S.news r hm; exact ⟨x.but e n, y⟩

theorem St.sub (S : St K g env vars vals caps N h) (s : N'.Sublist N) : St K g env vars vals caps N' h :=
  { S with news := fun p hp => S.news p (s.subset hp), nodN := S.nodN.sublist (s.map _) }

theorem St.tail (S : St K g env vars vals caps ((a, c) :: N) h) : St K g env vars vals caps N h := S.sub (List.sublist_cons_self _ _)
theorem St.swap {b : Addr} {d : Cn} (S : St K g env vars vals caps ((a, c) :: (b, d) :: N) h) : St K g env vars vals caps ((b, d) :: (a, c) :: N) h :=
  { S with
    news := fun p hp => S.news p (by simp only [List.mem_cons] at hp ⊢; rcases hp with h | h | h <;> simp [h])
    nodN := by
      have := S.nodN
      simp only [List.map_cons, List.nodup_cons, List.mem_cons, not_or] at this ⊢
      exact ⟨⟨Ne.symm this.1.1, this.2.1⟩, this.1.2, this.2.2⟩ }
theorem St.at (S : St K g env vars vals caps N h) (hm : (a, c) ∈ N) : IsAt h a c := (S.news _ hm).1

/-- forget values -/
inductive Le2 : List (Option Value) → List (Option Value) → Prop
  | nil : Le2 [] []
  | keep {o vs vs'} : Le2 vs vs' → Le2 (o :: vs) (o :: vs')
  | drop {o vs vs'} : Le2 vs vs' → Le2 (o :: vs) (none :: vs')
theorem Le2.at {vs vs'} (l : Le2 vs vs') : ∀ {xs x v}, At2 xs vs' x v → At2 xs vs x v := by
  induction l with
  | nil => intro _ _ _ a; cases a
  | keep _ ih => intro _ _ _ a; cases a with | head => exact .head | tail a => exact .tail (ih a)
  | drop _ ih => intro _ _ _ a; cases a with | tail a => exact .tail (ih a)
theorem St.forget (S : St K g env vars vals caps N h) (l : Le2 vals vals') : St K g env vars vals' caps N h :=
  { S with
    ns := let ⟨m, x, y⟩ := S.ns; ⟨m, x, fun n v a => y n v (l.at a)⟩
    kind := fun x hx => (S.kind x hx).imp id fun ⟨k, c, u, p, q, r, s, t⟩ => ⟨k, c, u, p, q, r, s, fun v a => t v (l.at a)⟩ }

def St.owned (env : Env) (vars : List Str) (N : List (Addr × Cn)) : List Addr :=
  env.locals :: (vars.filterMap fun x => if env.kindOf x = some .cell then env.cells.lookup x else none) ++ N.map (·.1)

theorem St.rebase (S : St K g env vars vals caps N h) : ∃ g', Ext g g' ∧ St K g' env vars vals caps N h ∧
    ∀ a o, h.get? a = some o → a ∉ St.owned env vars N → g'.get? a = some o := by
  have gg : Ext g (hideAll h (St.owned env vars N)) := fun b o e => hideAll_get _ (S.keep b o e) fun q => by
    rcases List.mem_append.mp q with q | q
    · rcases List.mem_cons.mp q with q | q
      · rw [q, S.hidL] at e; cases e
      · obtain ⟨x, hx, hq⟩ := List.mem_filterMap.mp q
        split at hq
        · rename_i hk
          rcases S.kind x hx with y | ⟨_, c', u, p, _, r, _⟩
          · rw [hk] at y; cases y
          · rw [p] at hq; cases hq; rw [r] at e; cases e
        · cases hq
    · obtain ⟨p, hp, hq⟩ := List.mem_map.mp q
      have := (S.news p hp).2.2.1
      rw [hq, e] at this; cases this
  refine ⟨hideAll h (St.owned env vars N), gg, { S with wd := S.wd.ext gg, keep := fun b o e => of_hideAll _ e, hidL := hideAll_none _ ?_, kind := fun x hx => ?_, caps := fun p hp => ?_, news := fun p hp => ?_ }, fun a o e n => hideAll_get _ e n⟩
  · exact List.mem_append_left _ (.head _)
  · refine (S.kind x hx).imp id fun ⟨k, c, u, p, q, r, s, t⟩ => ⟨k, c, u, p, q, hideAll_none _ ?_, s, t⟩
    exact List.mem_append_left _ (.tail _ (List.mem_filterMap.mpr ⟨x, hx, by rw [if_pos k]; exact p⟩))
  · obtain ⟨x, c, y, z⟩ := S.caps p hp
    exact ⟨x, c, y, z.keeps gg⟩
  · obtain ⟨x, y, z, t⟩ := S.news p hp
    exact ⟨x, y, hideAll_none _ (List.mem_append_right _ (List.mem_map_of_mem hp)), t⟩

theorem St.owned_some (S : St K g env vars vals caps N h) : ∀ a ∈ St.owned env vars N, ∃ o, h.get? a = some o := fun a ha => by
  rcases List.mem_append.mp ha with q | q
  · rcases List.mem_cons.mp q with q | q
    · rw [q]; exact S.locals_some
    · obtain ⟨x, hx, hq⟩ := List.mem_filterMap.mp q
      split at hq
      · rename_i hk
        rcases S.kind x hx with y | ⟨_, c', u, p, _, r, ⟨o, ho, _⟩, _⟩
        · rw [hk] at y; cases y
        · rw [p] at hq; cases hq; exact ⟨o, ho⟩
      · cases hq
  · obtain ⟨p, hp, hq⟩ := List.mem_map.mp q
    obtain ⟨o, ho⟩ := (S.news p hp).1.some
    exact ⟨o, hq ▸ ho⟩

/-- what was made between h and h' is frozen -/
theorem St.freezeNew (S : St K g env vars vals caps N h) (e : Ext h h') : ∃ g', Ext g g' ∧ St K g' env vars vals caps N h' ∧
    (∀ a o, h.get? a = none → h'.get? a = some o → g'.get? a = some o) := by
  obtain ⟨g', x, y, z⟩ := (S.grow e).rebase
  refine ⟨g', x, y, fun a o hn ho => z a o ho fun q => ?_⟩
  obtain ⟨o', ho'⟩ := S.owned_some a q
  rw [hn] at ho'; cases ho'

/-- the ledger's first object is frozen -/
theorem St.freeze (S : St K g env vars vals caps ((a, c) :: N) h) : ∃ g', Ext g g' ∧ IsAt g' a c ∧ St K g' env vars vals caps N h := by
  obtain ⟨g', x, y, z⟩ := S.tail.rebase
  obtain ⟨⟨o, ho, hc⟩, h2, h3, h4⟩ := S.news (a, c) (.head _)
  refine ⟨g', x, ⟨o, z a o ho fun q => ?_, hc⟩, y⟩
  rcases List.mem_append.mp q with q | q
  · rcases List.mem_cons.mp q with q | q
    · exact h2 q
    · obtain ⟨x, hx, hq⟩ := List.mem_filterMap.mp q
      split at hq
      · rename_i hk; exact h4 x hx hk hq
      · cases hq
  · exact (List.nodup_cons.mp S.nodN).1 q
end

open PySem PySem.W PySem.Calls PyProof.Rows
set_option Elab.async false

theorem kindOf_of {env : Env} {sc : Scope} {x : Str} {k : NameKind} (e : env.scope = sc) (l : sc.names.lookup x = some k) : env.kindOf x = some k := by
  unfold Env.kindOf; rw [e]; exact l

section
variable {prog : Program} {w : World} {A : Around} {h : Heap} {env : Env}

/- statements -/
theorem Wp_execs_nil {Q : Flow → Heap → Prop} (H : Q .next h) : Wp (model prog w) A (execs [] env) Q h := fun s _ hs => wpAny_execs_nil ⟨Same.rfl' s, hs ▸ H⟩
theorem Wp_execs_cons {st rest} {Q : Flow → Heap → Prop} (H : Wp (model prog w) A (exec st env) (fun f h' => match f with | .next => Wp (model prog w) A (execs rest env) Q h' | f => Q f h') h) :
    Wp (model prog w) A (execs (st :: rest) env) Q h := fun s E hs => wpAny_execs_cons (H.out hs fun f s' e q => by
  cases f with
  | next => exact q.out rfl fun _ _ e' q' => ⟨e.trans e', q'⟩
  | brk => exact ⟨e, q⟩
  | cont => exact ⟨e, q⟩
  | ret v => exact ⟨e, q⟩)
theorem Wp_Assign_Name {x pos' value pos} {Q : Flow → Heap → Prop} (H : Wp (model prog w) A (eval value env) (fun v h' => Wp (model prog w) A (storeName env x v) (fun _ => Q .next) h') h)
    (hs : swapsWith value (some (.Name x pos')) pos.line env = pure false) : Wp (model prog w) A (exec (.Assign [.Name x pos'] value pos) env) Q h :=
  fun _ _ e => wpAny_Assign_Name (H.out e fun _ _ e q => q.out rfl fun _ _ e' q' => ⟨e.trans e', q'⟩) hs
theorem Wp_If {test body orelse pos} {Q : Flow → Heap → Prop} (H : Wp (model prog w) A (isTrue test env (eval test env)) (fun b h' => Wp (model prog w) A (execs (cond b body orelse) env) Q h') h) :
    Wp (model prog w) A (exec (.If test body orelse pos) env) Q h := fun _ _ e => wpAny_If (H.out e fun b _ e q => by
  cases b <;> exact q.out rfl fun _ _ e' q' => ⟨e.trans e', q'⟩)
theorem Wp_then {b : Bool} {body orelse : List Stmt} {Q : Flow → Heap → Prop} (hb : b = true) (H : Wp (model prog w) A (execs body env) Q h) : Wp (model prog w) A (execs (cond b body orelse) env) Q h := by subst hb; exact H
theorem Wp_else {b : Bool} {body orelse : List Stmt} {Q : Flow → Heap → Prop} (hb : b = false) (H : Wp (model prog w) A (execs orelse env) Q h) : Wp (model prog w) A (execs (cond b body orelse) env) Q h := by subst hb; exact H
theorem Wp_split {b : Bool} {body orelse : List Stmt} {Q : Flow → Heap → Prop} (H : b = true → Wp (model prog w) A (execs body env) Q h) (H' : b = false → Wp (model prog w) A (execs orelse env) Q h) : Wp (model prog w) A (execs (cond b body orelse) env) Q h := by
  cases b
  · exact H' rfl
  · exact H rfl
theorem Wp_Return {e pos} {Q : Flow → Heap → Prop} (H : Wp (model prog w) A (eval e env) (fun v h' => Q (.ret v) h') h) : Wp (model prog w) A (exec (.Return (some e) pos) env) Q h :=
  fun _ _ e => wpAny_Return_some (H.out e fun _ _ e q => ⟨e, q⟩)
theorem Wp_Expr {e pos} {Q : Flow → Heap → Prop} (H : Wp (model prog w) A (eval e env) (fun v h' => v = .none ∧ Q .next h') h)
    (hk : env.scope.kind = .function) (hs : swapsWith e none pos.line env = pure false := by rfl) : Wp (model prog w) A (exec (.Expr e pos) env) Q h :=
  fun _ _ e => wpAny_Expr (H.out e fun v _ e q => by obtain ⟨rfl, q⟩ := q; exact ⟨e, q⟩) (by unfold interactive; rw [hk]; rfl) hs
theorem Wp_AugAssign_Name {x pos' op value pos} {Q : Flow → Heap → Prop}
    (H : Wp (model prog w) A (loadName env x) (fun old h₁ => Wp (model prog w) A (eval value env) (fun v h₂ => Wp (model prog w) A (inplaceOp op old v) (fun r h₃ => Wp (model prog w) A (storeName env x r) (fun _ => Q .next) h₃) h₂) h₁) h) :
    Wp (model prog w) A (exec (.AugAssign (.Name x pos') op value pos) env) Q h :=
  fun _ _ e => wpAny_AugAssign_Name (H.out e fun _ _ e₁ q => q.out rfl fun _ _ e₂ q => q.out rfl fun _ _ e₃ q => q.out rfl fun _ _ e₄ q => ⟨((e₁.trans e₂).trans e₃).trans e₄, q⟩)
theorem Wp_Assign_Subscript {o i pos' value pos} {Q : Flow → Heap → Prop}
    (H : Wp (model prog w) A (eval value env) (fun v h₁ => Wp (model prog w) A (eval o env) (fun ov h₂ => Wp (model prog w) A (eval i env) (fun iv h₃ => Wp (model prog w) A (setItem ov iv v) (fun _ => Q .next) h₃) h₂) h₁) h)
    (hs : swapsWith value (some (.Subscript o i pos')) pos.line env = pure false := by rfl) : Wp (model prog w) A (exec (.Assign [.Subscript o i pos'] value pos) env) Q h :=
  fun _ _ e => wpAny_Assign_Subscript (H.out e fun _ _ e₁ q => q.out rfl fun _ _ e₂ q => q.out rfl fun _ _ e₃ q => q.out rfl fun _ _ e₄ q => ⟨((e₁.trans e₂).trans e₃).trans e₄, q⟩) hs

/- expressions -/
theorem Wp_int {i k pos} {Q : Value → Heap → Prop} (H : ∀ t, Q (.int i t) h) : Wp (model prog w) A (eval (.Constant (.int i) k pos) env) Q h := fun s _ hs => wpAny_Constant_int ⟨Same.mk' s _ _, hs ▸ H _⟩
theorem Wp_none {k pos} {Q : Value → Heap → Prop} (H : Q .none h) : Wp (model prog w) A (eval (.Constant .none k pos) env) Q h := fun s _ hs => wpAny_Constant_none ⟨Same.rfl' s, hs ▸ H⟩
theorem Wp_bool {b k pos} {Q : Value → Heap → Prop} (H : Q (.bool b) h) : Wp (model prog w) A (eval (.Constant (.bool b) k pos) env) Q h := fun s _ hs => wpAny_Constant_bool ⟨Same.rfl' s, hs ▸ H⟩
theorem Wp_BinOp {l op r pos} {Q : Value → Heap → Prop} (H : Wp (model prog w) A (eval l env) (fun a h₁ => Wp (model prog w) A (eval r env) (fun b h₂ => Wp (model prog w) A (binaryOp op a b) Q h₂) h₁) h) :
    Wp (model prog w) A (eval (.BinOp l op r pos) env) Q h := fun _ _ e => wpAny_BinOp (H.out e fun _ _ e₁ q => q.out rfl fun _ _ e₂ q => q.out rfl fun _ _ e₃ q => ⟨(e₁.trans e₂).trans e₃, q⟩)
theorem Wp_Compare {l op r pos} {Q : Value → Heap → Prop} (H : Wp (model prog w) A (eval l env) (fun a h₁ => Wp (model prog w) A (eval r env) (fun b h₂ => Wp (model prog w) A (compareOp op a b) Q h₂) h₁) h)
    (hm : behindInMarks op r = false := by with_unfolding_all rfl) :
    Wp (model prog w) A (eval (.Compare l [op] [r] pos) env) Q h := fun _ _ e => wpAny_Compare1 (H.out e fun _ _ e₁ q => q.out rfl fun _ _ e₂ q => q.out rfl fun _ _ e₃ q => ⟨(e₁.trans e₂).trans e₃, q⟩) hm
theorem Wp_tCompare {l op r pos whole} {Q : Bool → Heap → Prop} (H : Wp (model prog w) A (eval l env) (fun a h₁ => Wp (model prog w) A (eval r env) (fun b h₂ => Wp (model prog w) A (compareOp op a b) (fun c h₃ => Wp (model prog w) A (truthy c) Q h₃) h₂) h₁) h)
    (hm : behindInMarks op r = false := by with_unfolding_all rfl) :
    Wp (model prog w) A (isTrue (.Compare l [op] [r] pos) env whole) Q h := fun _ _ e => wpAny_isTrue_Compare1 (H.out e fun _ _ e₁ q => q.out rfl fun _ _ e₂ q => q.out rfl fun _ _ e₃ q => q.out rfl fun _ _ e₄ q => ⟨((e₁.trans e₂).trans e₃).trans e₄, q⟩) hm
theorem Wp_tNot {x pos whole} {Q : Bool → Heap → Prop} (H : Wp (model prog w) A (isTrue x env (eval x env)) (fun c h' => Q (!c) h') h) :
    Wp (model prog w) A (isTrue (.UnaryOp .Not x pos) env whole) Q h := fun _ _ e => isTrue_not (H.out e fun _ _ e q => ⟨e, q⟩)
theorem Wp_tBool {op values pos whole} {Q : Bool → Heap → Prop} (H : Wp (model prog w) A (allTrue op values env) Q h) :
    Wp (model prog w) A (isTrue (.BoolOp op values pos) env whole) Q h := fun s E e => wpAny_isTrue_BoolOp (H s E e)
theorem Wp_allAnd_nil {Q : Bool → Heap → Prop} (H : Q true h) : Wp (model prog w) A (allTrue .And [] env) Q h := fun s _ e => wpAny_pure (a := true) ⟨Same.rfl' s, e ▸ H⟩
theorem Wp_allOr_nil {Q : Bool → Heap → Prop} (H : Q false h) : Wp (model prog w) A (allTrue .Or [] env) Q h := fun s _ e => wpAny_pure (a := false) ⟨Same.rfl' s, e ▸ H⟩
theorem Wp_allAnd {x rest} {Q : Bool → Heap → Prop} (H : Wp (model prog w) A (isTrue x env (eval x env)) (fun b h' => (b = true → Wp (model prog w) A (allTrue .And rest env) Q h') ∧ (b = false → Q false h')) h) :
    Wp (model prog w) A (allTrue .And (x :: rest) env) Q h := fun _ _ e => wpAny_allTrue_And_cons (H.out e fun b _ e q => by
  cases b with
  | true => exact (q.1 rfl).out rfl fun _ _ e' q' => ⟨e.trans e', q'⟩
  | false => exact ⟨e, q.2 rfl⟩)
theorem Wp_allOr {x rest} {Q : Bool → Heap → Prop} (H : Wp (model prog w) A (isTrue x env (eval x env)) (fun b h' => (b = true → Q true h') ∧ (b = false → Wp (model prog w) A (allTrue .Or rest env) Q h')) h) :
    Wp (model prog w) A (allTrue .Or (x :: rest) env) Q h := fun _ _ e => wpAny_allTrue_Or_cons (H.out e fun b _ e q => by
  cases b with
  | true => exact ⟨e, q.1 rfl⟩
  | false => exact (q.2 rfl).out rfl fun _ _ e' q' => ⟨e.trans e', q'⟩)
theorem Wp_tPlain {x : Expr} {whole : Sem Value} {Q : Bool → Heap → Prop} (H : Wp (model prog w) A whole (fun v h' => Wp (model prog w) A (truthy v) Q h') h)
    (he : isTrue x env whole = (do let v ← whole; standAt x.pos; holding [v] (truthy v)) := by rfl) : Wp (model prog w) A (isTrue x env whole) Q h :=
  fun _ _ e => isTrue_plain (H.out e fun _ _ e₁ q => q.out rfl fun _ _ e₂ q => ⟨e₁.trans e₂, q⟩) he
theorem Wp_IfExp {test body orelse pos} {Q : Value → Heap → Prop} (H : Wp (model prog w) A (isTrue test env (eval test env)) (fun b h' => Wp (model prog w) A (eval (cond b body orelse) env) Q h') h) :
    Wp (model prog w) A (eval (.IfExp test body orelse pos) env) Q h := fun _ _ e => wpAny_IfExp (H.out e fun b _ e q => by
  cases b <;> exact q.out rfl fun _ _ e' q' => ⟨e.trans e', q'⟩)
theorem Wp_ethen {b : Bool} {x y : Expr} {Q : Value → Heap → Prop} (hb : b = true) (H : Wp (model prog w) A (eval x env) Q h) : Wp (model prog w) A (eval (cond b x y) env) Q h := by subst hb; exact H
theorem Wp_eelse {b : Bool} {x y : Expr} {Q : Value → Heap → Prop} (hb : b = false) (H : Wp (model prog w) A (eval y env) Q h) : Wp (model prog w) A (eval (cond b x y) env) Q h := by subst hb; exact H
theorem Wp_UnaryOp {op x pos} {Q : Value → Heap → Prop} (H : Wp (model prog w) A (eval x env) (fun v h' => Wp (model prog w) A (unaryOp op v) Q h') h) :
    Wp (model prog w) A (eval (.UnaryOp op x pos) env) Q h := fun _ _ e => wpAny_UnaryOp (H.out e fun _ _ e₁ q => q.out rfl fun _ _ e₂ q => ⟨e₁.trans e₂, q⟩)
theorem Wp_And1 {x pos} {Q : Value → Heap → Prop} (H : Wp (model prog w) A (eval x env) Q h) : Wp (model prog w) A (eval (.BoolOp .And [x] pos) env) Q h := H
theorem Wp_boolOp_and {pos t u r} {Q : Value → Heap → Prop} (H : Wp (model prog w) A t (fun v h₁ => Wp (model prog w) A (truthy v) (fun b h₂ => (b = true → Wp (model prog w) A (boolOp pos .And (u :: r)) Q h₂) ∧ (b = false → Q v h₂)) h₁) h) :
    Wp (model prog w) A (boolOp pos .And (t :: u :: r)) Q h := by
  unfold boolOp
  refine Wp_bind (H.mono fun v h₁ H₁ => Wp_bind (Wp_standAt (Wp_bind (Wp_holding (H₁.mono fun b h₂ H₂ => ?_)))))
  cases b with
  | true => exact H₂.1 rfl
  | false => exact Wp_pure (H₂.2 rfl)
theorem Wp_boolOp_one {pos op t} {Q : Value → Heap → Prop} (H : Wp (model prog w) A t Q h) : Wp (model prog w) A (boolOp pos op [t]) Q h := H

/- ints -/
variable {a b : Int} {t u : Tok} {Q : Value → Heap → Prop}
theorem Wp_add (H : ∀ t, Q (.int (a + b) t) h) : Wp (model prog w) A (binaryOp .Add (.int a t) (.int b u)) Q h := fun s _ hs => PyProof.Rows.add_int ⟨Same.mk' s _ _, hs ▸ H _⟩
theorem Wp_sub (H : ∀ t, Q (.int (a - b) t) h) : Wp (model prog w) A (binaryOp .Sub (.int a t) (.int b u)) Q h := fun s _ hs => PyProof.Rows.sub_int ⟨Same.mk' s _ _, hs ▸ H _⟩
theorem Wp_mul (hm : IntMulOk a b) (H : ∀ t, Q (.int (a * b) t) h) : Wp (model prog w) A (binaryOp .Mult (.int a t) (.int b u)) Q h := fun s _ hs => PyProof.Rows.mul_int ⟨Same.mk' s _ _, hs ▸ H _⟩ hm
theorem Wp_mod (hb : b ≠ 0) (H : ∀ t, Q (.int (a.fmod b) t) h) : Wp (model prog w) A (binaryOp .Mod (.int a t) (.int b u)) Q h := fun s _ hs => PyProof.Rows.mod_int hb ⟨Same.mk' s _ _, hs ▸ H _⟩
theorem Wp_lt (H : Q (.bool (decide (a < b))) h) : Wp (model prog w) A (compareOp .Lt (.int a t) (.int b u)) Q h := fun s _ hs => PyProof.Rows.lt_int ⟨Same.rfl' s, hs ▸ H⟩
theorem Wp_le (H : Q (.bool (decide (a ≤ b))) h) : Wp (model prog w) A (compareOp .LtE (.int a t) (.int b u)) Q h := fun s _ hs => PyProof.Rows.le_int ⟨Same.rfl' s, hs ▸ H⟩
theorem Wp_gt (H : Q (.bool (decide (b < a))) h) : Wp (model prog w) A (compareOp .Gt (.int a t) (.int b u)) Q h := fun s _ hs => PyProof.Rows.gt_int ⟨Same.rfl' s, hs ▸ H⟩
theorem Wp_ge (H : Q (.bool (decide (b ≤ a))) h) : Wp (model prog w) A (compareOp .GtE (.int a t) (.int b u)) Q h := fun s _ hs => PyProof.Rows.ge_int ⟨Same.rfl' s, hs ▸ H⟩
theorem Wp_eq (H : Q (.bool (a == b)) h) : Wp (model prog w) A (compareOp .Eq (.int a t) (.int b u)) Q h := fun s _ hs => PyProof.Rows.eq_int ⟨Same.rfl' s, hs ▸ H⟩
theorem Wp_ne (H : Q (.bool (a != b)) h) : Wp (model prog w) A (compareOp .NotEq (.int a t) (.int b u)) Q h := fun s _ hs => PyProof.Rows.ne_int ⟨Same.rfl' s, hs ▸ H⟩
theorem Wp_neg (H : ∀ t, Q (.int (-a) t) h) : Wp (model prog w) A (unaryOp .USub (.int a t)) Q h := fun s _ hs => PyProof.Rows.neg_int ⟨Same.mk' s _ _, hs ▸ H _⟩
theorem Wp_truthy_bool {b : Bool} {Q : Bool → Heap → Prop} (H : Q b h) : Wp (model prog w) A (truthy (.bool b)) Q h := fun s _ hs => wpAny_truthy_bool ⟨Same.rfl' s, hs ▸ H⟩
theorem Wp_truthy_list {l : Addr} {xs : List Value} {Q : Bool → Heap → Prop} (hl : h.IsList l xs.toArray) (hf : (xs.length : Int) < 2 ^ 63) (H : Q (!xs.isEmpty) h) : Wp (model prog w) A (truthy (.ref l)) Q h :=
  fun s _ hs => by subst hs; exact wpAny_truthy_list hl (by simpa using hf) ⟨Same.mk' s _ _, by simpa using H⟩
theorem Wp_is {v v' : Value} (hp : plainIs v v' = true) (H : Q (.bool (v == v')) h) : Wp (model prog w) A (compareOp .Is v v') Q h := fun s _ hs => wpAny_is_plain hp ⟨Same.rfl' s, hs ▸ H⟩
theorem Wp_isNot {v v' : Value} (hp : plainIs v v' = true) (H : Q (.bool (!(v == v'))) h) : Wp (model prog w) A (compareOp .IsNot v v') Q h := fun s _ hs => wpAny_isNot_plain hp ⟨Same.rfl' s, hs ▸ H⟩
end

/- names -/
section
variable {prog : Program} {w : World} {A : Around} {K : Frag} {g h : Heap} {env : Env} {vars : List Str} {vals vals' : List (Option Value)} {caps : List (Str × Value)} {N : List (Addr × Cn)}
  {x : Str} {v : Value} {pos : Pos} {Q : Value → Heap → Prop}

theorem Wp_loadVar (S : St K g env vars vals caps N h) (hx : At2 vars vals x v) (H : Q v h) : Wp (model prog w) A (loadName env x) Q h := fun s E hs => by
  subst hs
  rcases S.kind x hx.mem with hk | ⟨hk, c, u, hc, _, _, hi, hu⟩
  · obtain ⟨m, hn, hm⟩ := S.ns
    exact wpAny_loadName_local S.kfun hk hn (hm x v hx hk) ⟨Same.rfl' s, H⟩
  · have := hu v hx; subst this
    exact wpAny_loadName_cell S.kfun hk hc hi ⟨Same.rfl' s, H⟩
theorem Wp_var (S : St K g env vars vals caps N h) (hx : At2 vars vals x v) (H : Q v h) (hd : (x == ("__debug__" : Str)) = false := by decide) : Wp (model prog w) A (eval (.Name x pos) env) Q h :=
  fun s E hs => wpAny_Name (Wp_loadVar S hx H s E hs) hd
theorem Wp_cap (S : St K g env vars vals caps N h) (hx : (x, v) ∈ caps) (H : Q v h) (hd : (x == ("__debug__" : Str)) = false := by decide) (hd' : (x == ("__classdict__" : Str)) = false := by decide) :
    Wp (model prog w) A (eval (.Name x pos) env) Q h := fun s E hs => by
  subst hs
  obtain ⟨hk, c, hc, hi⟩ := S.caps _ hx
  rcases hk with hk | hk
  · exact wpAny_Name (wpAny_loadName_cell S.kfun hk hc (hi.keeps S.keep) ⟨Same.rfl' s, H⟩) hd
  · exact wpAny_Name (wpAny_loadName_free S.kfun hk hc (hi.keeps S.keep) ⟨Same.rfl' s, H⟩ hd') hd
theorem Wp_glob (S : St K g env vars vals caps N h) (e : nsIn K mainGlobals x = some (some v)) (hk : env.kindOf x = some .globalImplicit) (H : Q v h) (hd : (x == ("__debug__" : Str)) = false := by decide) :
    Wp (model prog w) A (eval (.Name x pos) env) Q h := fun s E hs => by
  subst hs
  obtain ⟨mg, mb, G, B, _⟩ := S.wd.gb
  exact Name_function_global S.kfun hk (loadGlobal_global (by rw [S.gl]; exact G.keeps S.keep) (mg_of S.wd.K G e) ⟨Same.rfl' s, H⟩) hd
theorem Wp_boot (S : St K g env vars vals caps N h) (e : nsIn K mainGlobals x = some none) (hv : bootBuiltins x = some v) (hk : env.kindOf x = some .globalImplicit) (H : Q v h)
    (hn : x ≠ "__name__" := by decide) (hd : (x == ("__debug__" : Str)) = false := by decide) : Wp (model prog w) A (eval (.Name x pos) env) Q h := fun s E hs => by
  subst hs
  obtain ⟨mg, mb, G, B, hb⟩ := S.wd.gb
  exact Name_function_global S.kfun hk (loadGlobal_builtin (by rw [S.gl]; exact G.keeps S.keep) (mg_none_of S.wd.K G e) (by rw [S.bu]; exact B.keeps S.keep) ((hb x hn).trans hv) ⟨Same.rfl' s, H⟩) hd

theorem Wp_store {Q : Unit → Heap → Prop} (S : St K g env vars vals caps N h) (p : Put2 vars vals x v vals') (H : ∀ h', St K g env vars vals' caps N h' → Q () h') : Wp (model prog w) A (storeName env x v) Q h := fun s E hs => by
  subst hs
  rcases S.kind x p.mem with hk | ⟨hk, c, u, hc, hcL, hcg, hi, hu⟩
  · obtain ⟨m, hn, hm⟩ := S.ns
    refine wpAny_storeName_local hk hn (fun h' hn' hs' => ⟨Same.mk' s _ _, H _ ?_⟩) (by rw [S.kfun]; rfl)
    refine { S with keep := fun b o e => hs'.extBut b o (fun q => by rw [q, S.hidL] at e; cases e) (S.keep b o e), ns := ⟨_, hn', fun y u a hy => ?_⟩, kind := fun y hy => ?_, news := fun q hq => ?_ }
    · rcases p.at S.nod a with ⟨rfl, rfl⟩ | ⟨hne, a'⟩
      · simp
      · rw [if_neg hne]; exact hm y u a' hy
    · refine (S.kind y hy).imp id fun ⟨k, c, u', p', q', r, hi, t⟩ => ⟨k, c, u', p', q', r, hi.sameBut hs' q', fun v' a => ?_⟩
      rcases p.at S.nod a with ⟨rfl, rfl⟩ | ⟨hne, a'⟩
      · rw [hk] at k; cases k
      · exact t v' a'
    · obtain ⟨y, z, t⟩ := S.news q hq
      exact ⟨y.but hs'.extBut z, z, t⟩
  · refine wpAny_storeName_cell S.kfun hk hc hi fun h' hi' hs' => ⟨Same.mk' s _ s.toks, H _ ?_⟩
    have hkp : Heap.ExtBut c s.heap h' := hs'.extBut
    refine { S with keep := fun b o e => hkp b o (fun q => by rw [q, hcg] at e; cases e) (S.keep b o e), ns := ?_, kind := fun y hy => ?_, news := fun q hq => ?_ }
    · obtain ⟨m, hn, hm⟩ := S.ns
      refine ⟨m, hn.sameBut hs' (Ne.symm hcL), fun y u' a hy => ?_⟩
      rcases p.at S.nod a with ⟨rfl, rfl⟩ | ⟨hne, a'⟩
      · rw [hk] at hy; cases hy
      · exact hm y u' a' hy
    · rcases S.kind y hy with k | ⟨k, c', u', p', q', r, hi'', t⟩
      · exact .inl k
      · by_cases hyx : y = x
        · subst hyx
          rw [hc] at p'; cases p'
          refine .inr ⟨k, c, some v, hc, q', r, hi', fun v' a => ?_⟩
          rcases p.at S.nod a with ⟨_, rfl⟩ | ⟨hne, _⟩
          · rfl
          · exact absurd rfl hne
        · have hcc : c' ≠ c := fun q => hyx (S.apart y hy x p.mem c k hk (q ▸ p') hc)
          refine .inr ⟨k, c', u', p', q', r, hi''.sameBut hs' hcc, fun v' a => ?_⟩
          rcases p.at S.nod a with ⟨h1, _⟩ | ⟨_, a'⟩
          · exact absurd h1 hyx
          · exact t v' a'
    · obtain ⟨y, z, t, u'⟩ := S.news q hq
      exact ⟨y.but hkp (fun q' => u' x p.mem hk (q' ▸ hc)), z, t, u'⟩
end

open PySem PySem.W PySem.Calls PyProof.Rows
set_option Elab.async false

section
variable {prog : Program} {w : World} {A : Around} {h : Heap} {env : Env} {K : Frag}

theorem Wp_args_nil {pos : Pos} {Q : List Value → Heap → Prop} (H : Q [] h) : Wp (model prog w) A (spliced (backTo pos (starEach [] env))) Q h := fun s _ e => spliced_none ⟨Same.rfl' s, e ▸ H⟩
theorem Wp_args_cons {pos : Pos} {e : Expr} {rest : List Expr} {Q : List Value → Heap → Prop}
    (H : Wp (model prog w) A (eval e env) (fun v h₁ => Wp (model prog w) A (spliced (backTo pos (starEach rest env))) (fun vs h₂ => Q (v :: vs) h₂) h₁) h)
    (he : starEach (e :: rest) env = (false, eval e env) :: starEach rest env := by rfl) : Wp (model prog w) A (spliced (backTo pos (starEach (e :: rest) env))) Q h :=
  fun _ _ e => spliced_more (H.out e fun _ _ e₁ q => q.out rfl fun _ _ e₂ q => ⟨e₁.trans e₂, q⟩) he
theorem Wp_kw_nil {pos : Pos} {Q : List Value → Heap → Prop} (H : Q [] h) : Wp (model prog w) A (evalAll ((backToKw pos (keywordEach [] env)).map (·.2))) Q h := fun s _ e => kwAll_nil ⟨Same.rfl' s, e ▸ H⟩
theorem Wp_kw_cons {pos p : Pos} {name : Str} {value : Expr} {rest : List Keyword} {Q : List Value → Heap → Prop}
    (H : Wp (model prog w) A (eval value env) (fun v h₁ => Wp (model prog w) A (evalAll ((backToKw pos (keywordEach rest env)).map (·.2))) (fun vs h₂ => Q (v :: vs) h₂) h₁) h) :
    Wp (model prog w) A (evalAll ((backToKw pos (keywordEach (⟨some name, value, p⟩ :: rest) env)).map (·.2))) Q h :=
  fun _ _ e => kwAll_cons (H.out e fun _ _ e₁ q => q.out rfl fun _ _ e₂ q => ⟨e₁.trans e₂, q⟩)

theorem Wp_List {elts pos} {Q : Value → Heap → Prop} (H : Wp (model prog w) A (spliced (backTo pos (starEach elts env))) (fun vs h₁ => Wp (model prog w) A (newList vs) Q h₁) h) :
    Wp (model prog w) A (eval (.List elts pos) env) Q h := fun _ _ e => List_ (H.out e fun _ _ e₁ q => q.out rfl fun _ _ e₂ q => ⟨e₁.trans e₂, q⟩)
theorem Wp_Tuple {elts k pos} {Q : Value → Heap → Prop} (H : Wp (model prog w) A (spliced (backTo pos (starEach elts env))) (fun vs h₁ => Wp (model prog w) A (newTuple vs) Q h₁) h) :
    Wp (model prog w) A (eval (.Tuple elts k pos) env) Q h := fun _ _ e => Tuple_ (H.out e fun _ _ e₁ q => q.out rfl fun _ _ e₂ q => ⟨e₁.trans e₂, q⟩)

/-- a new object -/
def Fresh (h : Heap) (a : Addr) (c : Cn) (h' : Heap) : Prop := Ext h h' ∧ h.get? a = none ∧ IsAt h' a c
theorem get?_size_none (h : Heap) : h.get? h.objs.size = none := by
  cases q : h.get? h.objs.size with
  | none => rfl
  | some o => exact absurd (Heap.lt_size q) (Nat.lt_irrefl _)
theorem Fresh.push (h : Heap) {o : Obj} {c : Cn} (ho : o.isFreed = false) (hc : c.ok o) : Fresh h h.objs.size c (h.push o) :=
  ⟨fun _ _ e => Heap.get?_push_of_some _ e, get?_size_none h, o, Heap.get?_push_size _ ho, hc⟩
theorem Fresh.st {g env vars vals caps N} {h h' : Heap} {a c} (F : Fresh h a c h') (S : St K g env vars vals caps N h) : St K g env vars vals caps ((a, c) :: N) h' := S.push F.1 F.2.1 F.2.2

theorem Wp_newList {vs : List Value} {Q : Value → Heap → Prop} (hsz : vs.length ≤ sizeLine) (H : ∀ a h', Fresh h a (.list vs) h' → Q (.ref a) h') : Wp (model prog w) A (newList vs) Q h := fun s _ hs => by
  subst hs
  exact wpAny_newObj_type ⟨Same.mk' s _ s.toks, H _ _ (Fresh.push _ rfl ⟨_, rfl⟩)⟩ (by show vs.toArray.size ≤ sizeLine; rw [List.size_toArray]; exact hsz)
theorem Wp_newTuple {vs : List Value} {Q : Value → Heap → Prop} (hsz : vs.length ≤ sizeLine) (H : ∀ a h', Fresh h a (.tup vs) h' → Q (.ref a) h') : Wp (model prog w) A (newTuple vs) Q h := fun s _ hs => by
  subst hs
  exact wpAny_newObj_type ⟨Same.mk' s _ s.toks, H _ _ (Fresh.push _ rfl ⟨_, rfl⟩)⟩ (by show vs.toArray.size ≤ sizeLine; rw [List.size_toArray]; exact hsz)

/- calls -/
theorem Wp_Call {x np pos args keywords} {Q : Value → Heap → Prop}
    (H : Wp (model prog w) A (eval (.Name x np) env) (fun f h₁ => Wp (model prog w) A (callWith pos f [] (backTo pos (starEach args env)) (backToKw pos (keywordEach keywords env))) Q h₁) h) :
    Wp (model prog w) A (eval (.Call (.Name x np) args keywords pos) env) Q h := fun _ _ e => wpAny_Call_Name_kw (H.out e fun _ _ e₁ q => q.out rfl fun _ _ e₂ q => ⟨e₁.trans e₂, q⟩)

inductive Machine : Value → Prop
  | builtin (id) : Machine (.builtin id)
  | type (T) : Machine (.type T)
theorem Machine.looks {M : Model} {f : Value} (m : Machine f) (h : Heap) : ∃ k, (k = Keeper.frame ∨ k = Keeper.machine ∨ k = Keeper.boundFrame) ∧ Looks M h (keeperOf f) k := by
  cases m <;> exact ⟨.machine, .inr (.inl rfl), Looks.of_pure rfl⟩

theorem Wp_callWith {P : Heap → Prop} {f : Value} {first : List Value} {pos : Pos} {args : List (Bool × Sem Value)} {kws : List (Option Str × Sem Value)} {Q : Value → Heap → Prop}
    (hplain : (args.any (·.1) || kws.any (·.1.isNone)) = false) (hk : ∀ h, P h → ∃ k, (k = Keeper.frame ∨ k = Keeper.machine ∨ k = Keeper.boundFrame) ∧ Looks (model prog w) h (keeperOf f) k)
    (H : Wp (model prog w) A (evalArgs f true args kws) (fun a h₁ => P h₁ ∧ Wp (model prog w) A (call f (first ++ a.pos) a.kw) Q h₁) h) :
    Wp (model prog w) A (callWith pos f first args kws) Q h := fun _ _ e => callWith_of hplain hk (H.out e fun _ _ e₁ q => ⟨q.1, q.2.out rfl fun _ _ e₂ q => ⟨e₁.trans e₂, q⟩⟩)

/-- a call of a built-in or a type by places alone -/
theorem Wp_callM {f : Value} {first : List Value} {pos : Pos} {e : Expr} {rest : List Expr} {Q : Value → Heap → Prop} (m : Machine f)
    (H : Wp (model prog w) A (spliced (backTo pos (starEach (e :: rest) env))) (fun vs h₁ => Wp (model prog w) A (call f (first ++ vs)) Q h₁) h)
    (he : starEach (e :: rest) env = (false, eval e env) :: starEach rest env := by rfl) (hplain : (backTo pos (starEach rest env)).any (·.1) = false := by rfl) :
    Wp (model prog w) A (callWith pos f first (backTo pos (starEach (e :: rest) env)) (backToKw pos (keywordEach [] env))) Q h := by
  rw [he] at H ⊢
  refine Wp_callWith (P := fun _ => True) (by show ((false || (backTo pos (starEach rest env)).any (·.1)) || false) = false; rw [hplain]; rfl) (fun h _ => m.looks h) ?_
  intro s E e
  exact evalArgs_plain (H.out e fun _ _ e₁ q => ⟨e₁, trivial, q⟩)
theorem Wp_callM0 {f : Value} {first : List Value} {pos : Pos} {Q : Value → Heap → Prop} (m : Machine f)
    (H : Wp (model prog w) A (call f (first ++ [])) Q h) :
    Wp (model prog w) A (callWith pos f first (backTo pos (starEach [] env)) (backToKw pos (keywordEach [] env))) Q h := by
  refine Wp_callWith (P := fun _ => True) rfl (fun h _ => m.looks h) ?_
  intro s E e
  exact evalArgs_nil3 ⟨Same.rfl' s, trivial, e ▸ H⟩
/-- a call of a def of the text -/
theorem Wp_callK {f : Value} {first : List Value} {pos : Pos} {e : Expr} {rest : List Expr} {Q : Value → Heap → Prop} (hk : keepIn K f = true)
    (H : Wp (model prog w) A (spliced (backTo pos (starEach (e :: rest) env))) (fun vs h₁ => K.In h₁ ∧ Wp (model prog w) A (call f (first ++ vs)) Q h₁) h)
    (he : starEach (e :: rest) env = (false, eval e env) :: starEach rest env := by rfl) (hplain : (backTo pos (starEach rest env)).any (·.1) = false := by rfl) :
    Wp (model prog w) A (callWith pos f first (backTo pos (starEach (e :: rest) env)) (backToKw pos (keywordEach [] env))) Q h := by
  rw [he] at H ⊢
  refine Wp_callWith (P := fun h => K.In h) (by show ((false || (backTo pos (starEach rest env)).any (·.1)) || false) = false; rw [hplain]; rfl) (keeps_K hk) ?_
  intro s E e
  exact evalArgs_plain (H.out e fun _ _ e₁ q => ⟨e₁, q.1, q.2⟩)
theorem Wp_callKkw {f : Value} {first : List Value} {pos : Pos} {e : Expr} {rest : List Expr} {kws : List Keyword} {Q : Value → Heap → Prop} (hk : keepIn K f = true)
    (H : Wp (model prog w) A (spliced (backTo pos (starEach (e :: rest) env))) (fun vs h₁ => Wp (model prog w) A (evalAll ((backToKw pos (keywordEach kws env)).map (·.2)))
      (fun ks h₂ => K.In h₂ ∧ Wp (model prog w) A (call f (first ++ vs) (((backToKw pos (keywordEach kws env)).filterMap (·.1)).zip ks)) Q h₂) h₁) h)
    (he : starEach (e :: rest) env = (false, eval e env) :: starEach rest env := by rfl) (hplain : (backTo pos (starEach rest env)).any (·.1) = false := by rfl)
    (hall : (backToKw pos (keywordEach kws env)).all (·.1.isSome) = true := by rfl) (hall' : (backToKw pos (keywordEach kws env)).any (·.1.isNone) = false := by rfl) :
    Wp (model prog w) A (callWith pos f first (backTo pos (starEach (e :: rest) env)) (backToKw pos (keywordEach kws env))) Q h := by
  refine Wp_callWith (P := fun h => K.In h) (by rw [he, hall']; show ((false || (backTo pos (starEach rest env)).any (·.1)) || false) = false; rw [hplain]; rfl) (keeps_K hk) ?_
  intro s E e
  exact evalArgs_kw2 hall (H.out e fun _ _ e₁ q => q.out rfl fun _ _ e₂ q => ⟨e₁.trans e₂, q.1, q.2⟩) he

theorem Wp_call {f : Value} {pos : List Value} {kw : List (Str × Value)} {Q : Value → Heap → Prop} (H : Cp (model prog w) A (.call f ⟨pos, kw⟩) (fun fl h' => ∃ v, fl = .ret v ∧ Q v h') h) : Wp (model prog w) A (call f pos kw) Q h :=
  fun _ _ e => wpAny_call (H.out e fun _ _ e₁ q => by obtain ⟨v, rfl, q⟩ := q; exact ⟨e₁, q⟩)

/-- the room that is left: n more frames -/
structure Ok (A : Around) (n : Nat) : Prop where
  hd : A.handled = none
  dep : A.depth + n ≤ 400
  un : A.units + 20 * n ≤ 400
theorem Ok.deeper {A : Around} {n : Nat} (o : Ok A (n + 1)) (env : Env) : Ok (A.deeper env) n := ⟨o.hd, by have := o.dep; simp only [Around.deeper]; omega, by have := o.un; simp only [Around.deeper]; omega⟩
theorem Ok.room {A : Around} {n : Nat} (o : Ok A n) : A.depth < recursionLimit := by have := o.dep; have e : recursionLimit = 1000 := rfl; omega
theorem Ok.units {A : Around} {n : Nat} (o : Ok A n) : A.units + 64 < cLine := by have := o.un; have e : cLine = 9900 := rfl; omega
theorem Ok.units0 {A : Around} {n : Nat} (o : Ok A n) : A.units < cLine := by have := o.units; omega
theorem Ok.less {A : Around} {n m : Nat} (o : Ok A n) (hm : m ≤ n) : Ok A m := ⟨o.hd, by have := o.dep; omega, by have := o.un; omega⟩
theorem Ok.caller (env : Env) : Ok (callerA.deeper env) 10 := ⟨rfl, by simp only [Around.deeper, callerA]; decide, by simp only [Around.deeper, callerA]; decide⟩
theorem Ok.marked {A : Around} {n : Nat} (o : Ok A n) (hd : Option Value) (e : hd = none) : A.mark hd = A := by subst e; cases A; rfl

/-- names bound by the call -/
def bindVals (vars : List Str) (binds : List (Str × Value)) : List (Option Value) := vars.map fun x => binds.reverse.lookup x

theorem bindL_eq (kindOf : Str → Option NameKind) : ∀ (binds : List (Str × Value)) (m : Str → Option Value) (x : Str) (v : Value), kindOf x = some .local → (binds.reverse.lookup x = some v ∨ (binds.reverse.lookup x = none ∧ m x = some v)) → bindL kindOf binds m x = some v
  | [], m, x, v, hk, h => by rcases h with h | h; cases h; exact h.2
  | (n, u) :: r, m, x, v, hk, h => by
    unfold bindL
    refine bindL_eq kindOf r _ x v hk ?_
    rw [List.reverse_cons, List.lookup_append] at h
    cases hl : List.lookup x r.reverse with
    | some y => rw [hl] at h; simp at h; exact .inl (by rw [h])
    | none =>
      right
      rw [hl] at h
      refine ⟨rfl, ?_⟩
      by_cases e : x = n
      · subst e
        rw [if_pos hk]
        simp [List.lookup] at h ⊢
        exact h
      · have hb : (x == n) = false := by simpa using e
        simp [List.lookup, hb] at h
        split
        · simp [e]; exact h
        · exact h
theorem bindC_eq (kindOf : Str → Option NameKind) : ∀ (binds : List (Str × Value)) (m : Str → Option Value) (x : Str) (v : Value), kindOf x = some .cell → (binds.reverse.lookup x = some v ∨ (binds.reverse.lookup x = none ∧ m x = some v)) → bindC kindOf binds m x = some v
  | [], m, x, v, hk, h => by rcases h with h | h; cases h; exact h.2
  | (n, u) :: r, m, x, v, hk, h => by
    unfold bindC
    refine bindC_eq kindOf r _ x v hk ?_
    rw [List.reverse_cons, List.lookup_append] at h
    cases hl : List.lookup x r.reverse with
    | some y => rw [hl] at h; simp at h; exact .inl (by rw [h])
    | none =>
      right
      rw [hl] at h
      refine ⟨rfl, ?_⟩
      by_cases e : x = n
      · subst e
        rw [if_neg (by rw [hk]; decide)]
        simp [List.lookup] at h ⊢
        exact h
      · have hb : (x == n) = false := by simpa using e
        simp [List.lookup, hb] at h
        split
        · exact h
        · simp [e]; exact h
theorem At2.bind {binds : List (Str × Value)} : ∀ {vars : List Str} {x v}, At2 vars (bindVals vars binds) x v → binds.reverse.lookup x = some v
  | y :: r, x, v, h => by
    unfold bindVals at h
    rw [List.map_cons] at h
    generalize ho : binds.reverse.lookup y = o at h
    cases h with
    | head => exact ho
    | tail h => exact At2.bind h

/-- entering a def of the text -/
theorem Cp_enter {g : Heap} {N : List (Addr × Cn)} {n : Nat} {name qual : Str} {params : Arguments} {body : List Stmt} {scope : Scope} {dV kV doc pm cdv ct oc : Value} {an od : Option Addr} {osl : Array (Option Value)} {f : Addr} {args : Args} {binds : List (Str × Value)} {Q : Flow → Heap → Prop}
    (vars : List Str) (wd : Wd K g) (keep : Ext g h) (hN : ∀ p ∈ N, IsAt h p.1 p.2 ∧ g.get? p.1 = none) (ndN : (N.map (·.1)).Nodup) (hA : Ok A (n + 1))
    (ho : K.lookup f = some ⟨oc, od, .func (fnOf name qual params body scope dV kV doc pm an cdv ct), osl⟩) (hcd : codeIn K cdv qual = true)
    (hbind : ∀ s : Shared, s.heap = h → BindsTo s (fnOf name qual params body scope dV kV doc pm an cdv ct) args binds)
    (hkind : (binds.all fun y => scope.names.lookup y.1 == some .local || scope.names.lookup y.1 == some .cell) = true)
    (hv : (vars.all fun y => scope.names.lookup y == some .local || scope.names.lookup y == some .cell) = true) (hnd : vars.Nodup)
    (H : ∀ (e : Env) h₁, e.scope = scope → Ext h h₁ → h.get? e.locals = none → Ok (A.deeper e) n → St K g e vars (bindVals vars binds) [] N h₁ →
      Wp (model prog w) (A.deeper e) (execs body e) (fun fl h₂ => Q (.ret (match fl with | .ret v => v | _ => .none)) h₂) h₁)
    (hco : scope.isCoroutine = false := by rfl) (hgen : scope.isGenerator = false := by rfl) (hk : scope.kind = .function := by rfl) :
    Cp (model prog w) A (.call (.ref f) args) Q h := fun s hs => by
  have hb := hbind s hs
  subst hs
  refine codeAny_call_function hA.room (keep _ _ (wd.K _ _ ho)) rfl hco hgen rfl (codeRec_of (wd.K.keeps keep) hcd) (hb _ _ _ _ ?_)
  refine wpAny_newFunctionEnv_cells hk (kindsX hkind _) fun env' he s' x => ?_
  have hL : env'.locals = s.heap.objs.size := by subst he; rfl
  have hsc : env'.scope = scope := by subst he; rfl
  have hgl : env'.globals = mainGlobals := by subst he; rfl
  have hbu : env'.builtins = builtinsNs := by subst he; rfl
  have hce : env'.cells = cellsFrom (s.heap.objs.size + 1) scope.names [] := by subst he; rfl
  clear he
  obtain ⟨h₁, tk, rfl⟩ := x.toInCall.same
  refine ⟨(wd.lim.keeps keep).keeps x.toInCall.keep, codeAny_func ?_⟩
  have hno : s.heap.get? env'.locals = none := by rw [hL]; exact get?_size_none _
  have gno : ∀ a, s.heap.get? a = none → g.get? a = none := fun a ha => by
    cases q : g.get? a with
    | none => rfl
    | some o => have := keep _ _ q; rw [ha] at this; cases this
  have cellNo : ∀ y c, env'.cells.lookup y = some c → s.heap.get? c = none := fun y c hc => by
    have hlt := x.above y c (mem_of_lookup hc)
    rw [hL] at hlt
    cases q : s.heap.get? c with
    | none => rfl
    | some o => exact absurd (Heap.lt_size q) (Nat.not_lt.mpr (Nat.le_of_lt hlt))
  have kinds : ∀ y ∈ vars, env'.kindOf y = some .local ∨ env'.kindOf y = some .cell := fun y hy => by
    have := List.all_eq_true.mp hv y hy
    unfold Env.kindOf; rw [hsc]
    rcases Bool.or_eq_true_iff.mp this with q | q
    · exact .inl (by simpa using q)
    · exact .inr (by simpa using q)
  have S : St K g env' vars (bindVals vars binds) [] N h₁ := by
    refine ⟨wd, keep.trans x.toInCall.keep, by rw [hsc]; exact hk, hgl, hbu, hnd, gno _ hno, ⟨_, x.toInCall.ns, fun y v a hy => bindL_eq _ _ _ _ _ hy (.inl a.bind)⟩, fun y hy => ?_, fun y _ z _ c _ _ h1 h2 => ?_, fun p hp => (by cases hp), fun p hp => ?_, ndN⟩
    · refine (kinds y hy).imp id fun k => ⟨k, ?_⟩
      have : ((cellsFrom (s.heap.objs.size + 1) scope.names []).lookup y).isSome = true := cellsFrom_some _ _ _ (.inl (by unfold Env.kindOf at k; rw [hsc] at k; exact k))
      obtain ⟨c, hc⟩ := Option.isSome_iff_exists.mp this
      rw [← hce] at hc
      exact ⟨c, _, hc, fun q => by have := x.above y c (mem_of_lookup hc); rw [q] at this; exact Nat.lt_irrefl _ this, gno _ (cellNo y c hc), x.cell y c hc, fun v a => bindC_eq _ _ _ _ _ k (.inl a.bind)⟩
    · exact name_of_addr x.apart (mem_of_lookup h1) (mem_of_lookup h2)
    · obtain ⟨h1, h2⟩ := hN p hp
      refine ⟨h1.ext x.toInCall.keep, fun q => ?_, h2, fun y hy hk' hc => ?_⟩
      · obtain ⟨o, ho⟩ := h1.some; rw [q, hno] at ho; cases ho
      · obtain ⟨o, ho⟩ := h1.some; rw [cellNo y _ hc] at ho; cases ho
  exact (H env' h₁ hsc x.toInCall.keep hno (hA.deeper env') S).out rfl fun fl s'' e q => ⟨_, rfl, (Same.mk' s h₁ tk).trans e, q⟩
end

open PySem PySem.W PySem.Calls PyProof.Rows
set_option Elab.async false

theorem St.lose {K : Frag} {g h h' : Heap} {env : Env} {vars : List Str} {vals : List (Option Value)} {caps : List (Str × Value)} {N : List (Addr × Cn)} {a : Addr} {c : Cn}
    (S : St K g env vars vals caps ((a, c) :: N) h) (e : Heap.ExtBut a h h') : St K g env vars vals caps N h' := by
  obtain ⟨_, h2, h3, h4⟩ := S.news (a, c) (.head _)
  simp only at h2 h3 h4
  have nd := List.nodup_cons.mp S.nodN
  have kp : ∀ b o, b ≠ a → h.get? b = some o → h'.get? b = some o := e
  refine { S.tail with keep := fun b o x => kp b o (fun z => by rw [z, h3] at x; cases x) (S.keep b o x), ns := ?_, kind := fun x hx => ?_, news := fun r hr => ?_ }
  · obtain ⟨m, x, y⟩ := S.ns; exact ⟨m, x.extBut e (Ne.symm h2), y⟩
  · refine (S.kind x hx).imp id fun ⟨k, c', u, p', q', r, ⟨o, ho, hd⟩, t⟩ => ⟨k, c', u, p', q', r, ⟨o, kp _ _ (fun z => h4 x hx k (z ▸ p')) ho, hd⟩, t⟩
  · obtain ⟨x, y⟩ := S.news r (.tail _ hr)
    exact ⟨x.but e (fun z => nd.1 (by have := List.mem_map_of_mem (f := (·.1)) hr; rwa [z] at this)), y⟩

inductive Src where
  | lst (l : Addr) (vs : List Value)
  | tpl (l : Addr) (vs : List Value)
  | rng (a : Int) (n : Nat)
  | rngs (a c : Int) (n : Nat)
def Src.len : Src → Nat
  | .lst _ vs => vs.length
  | .tpl _ vs => vs.length
  | .rng _ n => n
  | .rngs _ _ n => n
def Src.item : Src → Nat → Value → Prop
  | .lst _ vs, i, v => vs[i]? = some v
  | .tpl _ vs, i, v => vs[i]? = some v
  | .rng a _, i, v => ∃ t, v = .int (a + i) t
  | .rngs a c _, i, v => ∃ t, v = .int (a + i * c) t
def Src.cn : Src → Nat → Cn
  | .lst l _, i => .liter l i
  | .tpl l _, i => .titer l i
  | .rng a n, i => .riter (a + i) ((n : Int) - i)
  | .rngs a c n, i => .riters (a + i * c) ((n : Int) - i) c
def Src.base : Src → Heap → Prop
  | .lst l vs, h => h.IsList l vs.toArray
  | .tpl l vs, h => h.IsTuple l vs.toArray
  | .rng _ _, _ => True
  | .rngs _ _ _, _ => True

theorem IsAt.but' {h h' : Heap} {a b : Addr} {xs : Array Value} (x : h.IsList a xs) (e : Heap.ExtBut b h h') (n : a ≠ b) : h'.IsList a xs := x.extBut e n

section
variable {prog : Program} {w : World} {A : Around} {h : Heap} {I : Addr} {src : Src} {i : Nat} {Q : Option Value → Heap → Prop}

theorem next_item (hi : IsAt h I (src.cn i)) (hb : src.base h) (hl : i < src.len) (H : ∀ v h', src.item i v → IsAt h' I (src.cn (i + 1)) → Heap.ExtBut I h h' → Q (some v) h') :
    Wp (model prog w) A (pyNext (.ref I)) Q h := fun s E hs => by
  subst hs
  obtain ⟨o, ho, hc⟩ := hi
  cases src with
  | lst l vs =>
    refine wpAny_pyNext_list_item (i := i) (x := vs[i]) ⟨o, ho, hc⟩ hb (by simp [Src.len] at hl; simp [hl]) fun h' hit' hs' => ⟨Same.mk' s _ s.toks, ?_⟩
    obtain ⟨o', ho', hc'⟩ := hit'
    exact H _ _ (List.getElem?_eq_getElem hl) ⟨o', ho', hc'⟩ hs'.extBut
  | tpl l vs =>
    refine wpAny_pyNext_tuple_item (i := i) (x := vs[i]) ⟨o, ho, hc⟩ hb (by simp [Src.len] at hl; simp [hl]) fun h' hit' hs' => ⟨Same.mk' s _ s.toks, ?_⟩
    obtain ⟨o', ho', hc'⟩ := hit'
    exact H _ _ (List.getElem?_eq_getElem hl) ⟨o', ho', hc'⟩ hs'.extBut
  | rng a n =>
    have hc' : o = _ := hc
    subst hc'
    have hl' : i < n := hl
    refine wpAny_pyNext_range_item (x := a + i) (left := (n : Int) - i) (step := 1) ho (by omega) fun h' hit' hs' => ⟨Same.mk' s _ _, ?_⟩
    have e1 : a + (i : Int) + 1 = a + ((i + 1 : Nat) : Int) := by omega
    have e2 : (n : Int) - i - 1 = n - ((i + 1 : Nat) : Int) := by omega
    rw [e1, e2] at hit'
    exact H _ _ ⟨_, rfl⟩ ⟨_, hit', rfl⟩ hs'.extBut
  | rngs a c n =>
    have hc' : o = _ := hc
    subst hc'
    have hl' : i < n := hl
    refine wpAny_pyNext_range_item (x := a + i * c) (left := (n : Int) - i) (step := c) ho (by omega) fun h' hit' hs' => ⟨Same.mk' s _ _, ?_⟩
    have e1 : a + (i : Int) * c + c = a + ((i + 1 : Nat) : Int) * c := by rw [show (((i + 1 : Nat) : Int)) = (i : Int) + 1 from by omega, Int.add_mul]; omega
    have e2 : (n : Int) - i - 1 = n - ((i + 1 : Nat) : Int) := by omega
    rw [e1, e2] at hit'
    exact H _ _ ⟨_, rfl⟩ ⟨_, hit', rfl⟩ hs'.extBut

theorem next_end (hA : A.handled = none) (hi : IsAt h I (src.cn src.len)) (hb : src.base h) (H : ∀ h', Heap.ExtBut I h h' → Q none h') :
    Wp (model prog w) A (pyNext (.ref I)) Q h := fun s E hs => by
  subst hs
  obtain ⟨o, ho, hc⟩ := hi
  cases src with
  | lst l vs => exact wpAny_pyNext_list_end hA ⟨o, ho, hc⟩ hb (by simp [Src.len]) fun h' e => ⟨Same.mk' s _ s.toks, H _ e⟩
  | tpl l vs => exact wpAny_pyNext_tuple_end hA ⟨o, ho, hc⟩ hb (by simp [Src.len]) fun h' e => ⟨Same.mk' s _ s.toks, H _ e⟩
  | rng a n =>
    have hc' : o = _ := hc
    subst hc'
    exact wpAny_pyNext_range_end hA ho (by simp [Src.len]) fun h' e => ⟨Same.mk' s _ s.toks, H _ e⟩
  | rngs a c n =>
    have hc' : o = _ := hc
    subst hc'
    exact wpAny_pyNext_range_end hA ho (by simp [Src.len]) fun h' e => ⟨Same.mk' s _ s.toks, H _ e⟩

theorem Wp_iter_list {l : Addr} {xs : List Value} {Q : Value → Heap → Prop} (hl : h.IsList l xs.toArray) (H : ∀ I h', Fresh h I ((Src.lst l xs).cn 0) h' → Q (.ref I) h') : Wp (model prog w) A (pyIter (.ref l)) Q h := fun s _ hs => by
  subst hs
  exact wpAny_pyIter_list hl ⟨Same.mk' s _ s.toks, H _ _ (Fresh.push _ rfl ⟨rfl, rfl⟩)⟩
theorem Wp_iter_tuple {l : Addr} {xs : List Value} {Q : Value → Heap → Prop} (hl : h.IsTuple l xs.toArray) (H : ∀ I h', Fresh h I ((Src.tpl l xs).cn 0) h' → Q (.ref I) h') : Wp (model prog w) A (pyIter (.ref l)) Q h := fun s _ hs => by
  subst hs
  exact wpAny_pyIter_tuple hl ⟨Same.mk' s _ s.toks, H _ _ (Fresh.push _ rfl ⟨rfl, rfl⟩)⟩

theorem rangeSize_one (a b : Int) : Builtin.Range.rangeSize a b 1 = ((b - a).toNat : Int) := by
  unfold Builtin.Range.rangeSize
  rw [if_pos (by decide)]
  split
  · rw [Int.ediv_one]; omega
  · omega

def rangeObj (a b : Int) (t u v : Tok) : Obj := { cls := .type "range", dict := none, data := .fields #[.int a t, .int b u, .int 1 v], slots := #[] }
theorem Wp_iter_range {l : Addr} {a b : Int} {t u v : Tok} {Q : Value → Heap → Prop} (hl : IsAt h l (.obj (rangeObj a b t u v))) (hs : Builtin.Range.small a b 1 = true)
    (H : ∀ I h', Fresh h I ((Src.rng a (b - a).toNat).cn 0) h' → Q (.ref I) h') : Wp (model prog w) A (pyIter (.ref l)) Q h := fun s _ e => by
  subst e
  obtain ⟨o, ho, rfl⟩ := hl
  refine wpAny_pyIter_range ho hs ⟨Same.mk' s _ s.toks, H _ _ (Fresh.push _ rfl ?_)⟩
  simp only [Src.cn, Cn.ok, rangeSize_one]
  simp
end

/- loops -/
section
variable {prog : Program} {w : World} {A : Around} {K : Frag} {g h : Heap} {env : Env} {vars : List Str} {vals : List (Option Value)} {caps : List (Str × Value)} {N : List (Addr × Cn)}

theorem Wp_While {test body orelse pos} {Q : Flow → Heap → Prop} (H : Cp (model prog w) A (.whileLoop test body orelse env) Q h) : Wp (model prog w) A (exec (.While test body orelse pos) env) Q h :=
  fun _ _ e => wpAny_While (H.out e fun _ _ e q => ⟨e, q⟩)
theorem Wp_For {target iter body orelse pos} {Q : Flow → Heap → Prop}
    (H : Wp (model prog w) A (eval iter env) (fun x h₁ => Wp (model prog w) A (pyIter x) (fun it h₂ => Cp (model prog w) A (.forLoop target it body orelse env) Q h₂) h₁) h)
    (hs : ∀ x, foldedSetIterable iter env x = pure x := by intro _; rfl) : Wp (model prog w) A (exec (.For target iter body orelse pos) env) Q h :=
  fun _ _ e => wpAny_For (H.out e fun _ _ e₁ q => q.out rfl fun _ _ e₂ q => q.out rfl fun _ _ e₃ q => ⟨(e₁.trans e₂).trans e₃, q⟩) hs

theorem Cp_while {test : Expr} {body : List Stmt} {Q : Flow → Heap → Prop} (Inv : Nat → Heap → List (Option Value) → List (Addr × Cn) → Prop) {n : Nat}
    (S : St K g env vars vals caps N h) (h0 : Inv n g vals N)
    (turn : ∀ n g vals N h, Inv n g vals N → St K g env vars vals caps N h → Wp (model prog w) A (isTrue test env (eval test env)) (fun b h₁ =>
      (b = true → Wp (model prog w) A (execs body env) (fun f h₂ => match f with
        | .next | .cont => ∃ m g' vals' N', m < n ∧ Inv m g' vals' N' ∧ St K g' env vars vals' caps N' h₂
        | .brk => Q .next h₂
        | .ret v => Q (.ret v) h₂) h₁) ∧ (b = false → Q .next h₁)) h) :
    Cp (model prog w) A (.whileLoop test body [] env) Q h := fun s hs => by
  refine codeAny_whileLoop (fun n s' => Same s s' ∧ ∃ g vals N, Inv n g vals N ∧ St K g env vars vals caps N s'.heap) ?_ n ⟨Same.rfl' s, g, vals, N, h0, hs ▸ S⟩
  rintro n s' ⟨e, g, vals, N, hI, S⟩
  refine (turn n g vals N _ hI S).out rfl fun b s₂ e₂ q => ?_
  cases b with
  | false => exact wpAny_execs_nil ⟨_, rfl, e.trans e₂, q.2 rfl⟩
  | true =>
    refine (q.1 rfl).out rfl fun f s₃ e₃ q => ?_
    cases f with
    | next => obtain ⟨m, g', vals', N', hm, hI', S'⟩ := q; exact ⟨m, hm, (e.trans e₂).trans e₃, g', vals', N', hI', S'⟩
    | cont => obtain ⟨m, g', vals', N', hm, hI', S'⟩ := q; exact ⟨m, hm, (e.trans e₂).trans e₃, g', vals', N', hI', S'⟩
    | brk => exact ⟨_, rfl, (e.trans e₂).trans e₃, q⟩
    | ret v => exact ⟨_, rfl, (e.trans e₂).trans e₃, q⟩

theorem Cp_for {target : Expr} {body : List Stmt} {Q : Flow → Heap → Prop} {I : Addr} (src : Src) (Inv : Nat → Heap → List (Option Value) → List (Addr × Cn) → Prop) (hA : A.handled = none)
    (S : St K g env vars vals caps ((I, src.cn 0) :: N) h) (h0 : Inv 0 g vals N)
    (base : ∀ i g vals N h, Inv i g vals N → St K g env vars vals caps ((I, src.cn i) :: N) h → src.base h)
    (turn : ∀ i v g vals N h, i < src.len → src.item i v → Inv i g vals N → St K g env vars vals caps ((I, src.cn (i + 1)) :: N) h →
      Wp (model prog w) A (letOwnedTupleGo target (.ref I) v) (fun _ h₀ => Wp (model prog w) A (assign target env v) (fun _ h₁ => Wp (model prog w) A (execs body env) (fun f h₂ => match f with
        | .next | .cont => ∃ g' vals' N', Inv (i + 1) g' vals' N' ∧ St K g' env vars vals' caps ((I, src.cn (i + 1)) :: N') h₂
        | .brk => Q .next h₂
        | .ret v => Q (.ret v) h₂) h₁) h₀) h)
    (done : ∀ g vals N h, Inv src.len g vals N → St K g env vars vals caps N h → Q .next h) :
    Cp (model prog w) A (.forLoop target (.ref I) body [] env) Q h := fun s hs => by
  refine codeAny_forLoop_any (fun n s' => Same s s' ∧ ∃ i g vals N, n = src.len - i ∧ i ≤ src.len ∧ Inv i g vals N ∧ St K g env vars vals caps ((I, src.cn i) :: N) s'.heap) ?_ src.len
    ⟨Same.rfl' s, 0, g, vals, N, rfl, Nat.zero_le _, h0, hs ▸ S⟩
  rintro n s' ⟨e, i, g, vals, N, rfl, hi, hI, S⟩
  by_cases hl : i < src.len
  · refine (next_item (S.at (.head _)) (base i g vals N _ hI S) hl (Q := fun r h' => match r with | none => False | some v => src.item i v ∧ St K g env vars vals caps ((I, src.cn (i + 1)) :: N) h')
      (fun v h' hv hc hx => ⟨hv, S.upd .head hx hc⟩)).out rfl fun r s₁ e₁ q => ?_
    cases r with
    | none => exact q.elim
    | some v =>
      refine (turn i v g vals N _ hl q.1 hI q.2).out rfl fun _ s₁' e₁' q => q.out rfl fun _ s₂ e₂ q => q.out rfl fun f s₃ e₃ q => ?_
      have ee := (((e.trans e₁).trans e₁').trans e₂).trans e₃
      cases f with
      | next => obtain ⟨g', vals', N', hI', S'⟩ := q; exact ⟨_, by omega, ee, i + 1, g', vals', N', rfl, hl, hI', S'⟩
      | cont => obtain ⟨g', vals', N', hI', S'⟩ := q; exact ⟨_, by omega, ee, i + 1, g', vals', N', rfl, hl, hI', S'⟩
      | brk => exact ⟨_, rfl, ee, q⟩
      | ret v => exact ⟨_, rfl, ee, q⟩
  · have hn : i = src.len := by omega
    subst hn
    refine (next_end hA (S.at (.head _)) (base _ g vals N _ hI S) (Q := fun r h' => r = none ∧ St K g env vars vals caps N h') (fun h' hx => ⟨rfl, S.lose hx⟩)).out rfl fun r s₁ e₁ q => ?_
    obtain ⟨rfl, S'⟩ := q
    exact wpAny_execs_nil ⟨_, rfl, e.trans e₁, done g vals N _ hI S'⟩

theorem Wp_letOwned_Name {x p it v} {Q : Unit → Heap → Prop} (H : Q () h) : Wp (model prog w) A (letOwnedTupleGo (.Name x p) it v) Q h := Wp_pure H
theorem Wp_assign_Name {x p v} {Q : Unit → Heap → Prop} (H : Wp (model prog w) A (storeName env x v) Q h) : Wp (model prog w) A (assign (.Name x p) env v) Q h := fun s E e => wpAny_assign_Name (H s E e)
end

open PySem PySem.W PySem.Calls PyProof.Rows
set_option Elab.async false

section
variable {prog : Program} {w : World} {A : Around} {h : Heap} {env : Env} {K : Frag}

/-- a name's value in the module or among the built-ins -/
def GV (K : Frag) (x : Str) (v : Value) : Prop := nsIn K mainGlobals x = some (some v) ∨ (nsIn K mainGlobals x = some none ∧ bootBuiltins x = some v ∧ x ≠ "__name__")
theorem Wp_gv {g env vars vals caps N} {x : Str} {v : Value} {pos : Pos} {Q : Value → Heap → Prop} (S : St K g env vars vals caps N h) (e : GV K x v) (hk : env.kindOf x = some .globalImplicit) (H : Q v h) (hd : (x == ("__debug__" : Str)) = false := by decide) :
    Wp (model prog w) A (eval (.Name x pos) env) Q h := by
  rcases e with e | ⟨e, b, n⟩
  · exact Wp_glob S e hk H hd
  · exact Wp_boot S e b hk H n hd

theorem Wp_Sub {value slice pos} {Q : Value → Heap → Prop}
    (H : Wp (model prog w) A (eval value env) (fun o h₁ => Wp (model prog w) A (eval slice env) (fun i h₂ => Wp (model prog w) A (subscriptTail value slice o i) Q h₂) h₁) h) :
    Wp (model prog w) A (eval (.Subscript value slice pos) env) Q h := fun _ _ e => Subscript_ (H.out e fun _ _ e₁ q => q.out rfl fun _ _ e₂ q => q.out rfl fun _ _ e₃ q => ⟨(e₁.trans e₂).trans e₃, q⟩)

theorem Wp_item_list {value slice : Expr} {l : Addr} {xs : List Value} {k : Int} {t : Tok} {x : Value} {Q : Value → Heap → Prop} (hl : h.IsList l xs.toArray) (h0 : 0 ≤ k) (hx : xs[k.toNat]? = some x) (hfit : k < 2 ^ 63) (H : Q x h)
    (hs : subscripted slice false (.ref l) (.int k t) = operate [.ref l, .int k t] (getItem (.ref l) (.int k t)) := by with_unfolding_all rfl) :
    Wp (model prog w) A (subscriptTail value slice (.ref l) (.int k t)) Q h := fun s E e => by
  subst e
  exact tail_any hl.typeIs slot_list_getitem.lookup (wpAny_getItem_list hl h0 hfit (by simpa using hx) ⟨Same.rfl' s, H⟩) hs

theorem Wp_fdiv {a b : Int} {t u : Tok} {Q : Value → Heap → Prop} (hb : b ≠ 0) (hp : b.natAbs < 1073741824) (H : ∀ t, Q (.int (a.fdiv b) t) h) : Wp (model prog w) A (binaryOp .FloorDiv (.int a t) (.int b u)) Q h :=
  fun s _ hs => PyProof.Rows.floordiv_int hb ⟨Same.mk' s _ _, hs ▸ H _⟩ (Or.inl (PyProof.noPylong_small hp))
theorem Wp_iadd {a b : Int} {t u : Tok} {Q : Value → Heap → Prop} (H : ∀ t, Q (.int (a + b) t) h) : Wp (model prog w) A (inplaceOp .Add (.int a t) (.int b u)) Q h :=
  fun s _ hs => PyProof.Rows.iadd_int ⟨Same.mk' s _ _, hs ▸ H _⟩

theorem Wp_len_list {l : Addr} {xs : List Value} {Q : Value → Heap → Prop} (hl : h.IsList l xs.toArray) (hf : xs.length < 2 ^ 62) (H : ∀ t, Q (.int xs.length t) h) : Wp (model prog w) A (call (.builtin "len") [.ref l]) Q h := fun s E e => by
  subst e
  exact Calls.call_len_list hl (by simp; omega) ⟨Same.mk' s _ _, by simpa using H _⟩
end

-- the walk
local macro_rules | `(tactic| walk_at "at2") => `(tactic| with_reducible (first | exact At2.head | exact At2.tail At2.head | exact At2.tail (At2.tail At2.head) | exact At2.tail (At2.tail (At2.tail At2.head)) | exact At2.tail (At2.tail (At2.tail (At2.tail At2.head))) | exact At2.tail (At2.tail (At2.tail (At2.tail (At2.tail At2.head)))) | exact At2.tail (At2.tail (At2.tail (At2.tail (At2.tail (At2.tail At2.head))))) | exact At2.tail (At2.tail (At2.tail (At2.tail (At2.tail (At2.tail (At2.tail At2.head)))))) | exact At2.tail (At2.tail (At2.tail (At2.tail (At2.tail (At2.tail (At2.tail (At2.tail At2.head))))))) | exact At2.tail (At2.tail (At2.tail (At2.tail (At2.tail (At2.tail (At2.tail (At2.tail (At2.tail At2.head)))))))) | exact At2.tail (At2.tail (At2.tail (At2.tail (At2.tail (At2.tail (At2.tail (At2.tail (At2.tail (At2.tail At2.head))))))))) | exact At2.tail (At2.tail (At2.tail (At2.tail (At2.tail (At2.tail (At2.tail (At2.tail (At2.tail (At2.tail (At2.tail At2.head)))))))))) | exact At2.tail (At2.tail (At2.tail (At2.tail (At2.tail (At2.tail (At2.tail (At2.tail (At2.tail (At2.tail (At2.tail (At2.tail At2.head))))))))))) | exact At2.tail (At2.tail (At2.tail (At2.tail (At2.tail (At2.tail (At2.tail (At2.tail (At2.tail (At2.tail (At2.tail (At2.tail (At2.tail At2.head)))))))))))) | exact At2.tail (At2.tail (At2.tail (At2.tail (At2.tail (At2.tail (At2.tail (At2.tail (At2.tail (At2.tail (At2.tail (At2.tail (At2.tail (At2.tail At2.head))))))))))))) | exact At2.tail (At2.tail (At2.tail (At2.tail (At2.tail (At2.tail (At2.tail (At2.tail (At2.tail (At2.tail (At2.tail (At2.tail (At2.tail (At2.tail (At2.tail At2.head)))))))))))))) | exact At2.tail (At2.tail (At2.tail (At2.tail (At2.tail (At2.tail (At2.tail (At2.tail (At2.tail (At2.tail (At2.tail (At2.tail (At2.tail (At2.tail (At2.tail (At2.tail At2.head))))))))))))))) | exact At2.tail (At2.tail (At2.tail (At2.tail (At2.tail (At2.tail (At2.tail (At2.tail (At2.tail (At2.tail (At2.tail (At2.tail (At2.tail (At2.tail (At2.tail (At2.tail (At2.tail At2.head)))))))))))))))) | exact At2.tail (At2.tail (At2.tail (At2.tail (At2.tail (At2.tail (At2.tail (At2.tail (At2.tail (At2.tail (At2.tail (At2.tail (At2.tail (At2.tail (At2.tail (At2.tail (At2.tail (At2.tail At2.head))))))))))))))))) | exact At2.tail (At2.tail (At2.tail (At2.tail (At2.tail (At2.tail (At2.tail (At2.tail (At2.tail (At2.tail (At2.tail (At2.tail (At2.tail (At2.tail (At2.tail (At2.tail (At2.tail (At2.tail (At2.tail At2.head)))))))))))))))))) | exact At2.tail (At2.tail (At2.tail (At2.tail (At2.tail (At2.tail (At2.tail (At2.tail (At2.tail (At2.tail (At2.tail (At2.tail (At2.tail (At2.tail (At2.tail (At2.tail (At2.tail (At2.tail (At2.tail (At2.tail At2.head))))))))))))))))))) | exact At2.tail (At2.tail (At2.tail (At2.tail (At2.tail (At2.tail (At2.tail (At2.tail (At2.tail (At2.tail (At2.tail (At2.tail (At2.tail (At2.tail (At2.tail (At2.tail (At2.tail (At2.tail (At2.tail (At2.tail (At2.tail At2.head)))))))))))))))))))) | exact At2.tail (At2.tail (At2.tail (At2.tail (At2.tail (At2.tail (At2.tail (At2.tail (At2.tail (At2.tail (At2.tail (At2.tail (At2.tail (At2.tail (At2.tail (At2.tail (At2.tail (At2.tail (At2.tail (At2.tail (At2.tail (At2.tail At2.head))))))))))))))))))))) | exact At2.tail (At2.tail (At2.tail (At2.tail (At2.tail (At2.tail (At2.tail (At2.tail (At2.tail (At2.tail (At2.tail (At2.tail (At2.tail (At2.tail (At2.tail (At2.tail (At2.tail (At2.tail (At2.tail (At2.tail (At2.tail (At2.tail (At2.tail At2.head))))))))))))))))))))))))
local macro_rules | `(tactic| walk_at "put2") => `(tactic| with_reducible (first | exact Put2.head | exact Put2.tail Put2.head | exact Put2.tail (Put2.tail Put2.head) | exact Put2.tail (Put2.tail (Put2.tail Put2.head)) | exact Put2.tail (Put2.tail (Put2.tail (Put2.tail Put2.head))) | exact Put2.tail (Put2.tail (Put2.tail (Put2.tail (Put2.tail Put2.head)))) | exact Put2.tail (Put2.tail (Put2.tail (Put2.tail (Put2.tail (Put2.tail Put2.head))))) | exact Put2.tail (Put2.tail (Put2.tail (Put2.tail (Put2.tail (Put2.tail (Put2.tail Put2.head)))))) | exact Put2.tail (Put2.tail (Put2.tail (Put2.tail (Put2.tail (Put2.tail (Put2.tail (Put2.tail Put2.head))))))) | exact Put2.tail (Put2.tail (Put2.tail (Put2.tail (Put2.tail (Put2.tail (Put2.tail (Put2.tail (Put2.tail Put2.head)))))))) | exact Put2.tail (Put2.tail (Put2.tail (Put2.tail (Put2.tail (Put2.tail (Put2.tail (Put2.tail (Put2.tail (Put2.tail Put2.head))))))))) | exact Put2.tail (Put2.tail (Put2.tail (Put2.tail (Put2.tail (Put2.tail (Put2.tail (Put2.tail (Put2.tail (Put2.tail (Put2.tail Put2.head)))))))))) | exact Put2.tail (Put2.tail (Put2.tail (Put2.tail (Put2.tail (Put2.tail (Put2.tail (Put2.tail (Put2.tail (Put2.tail (Put2.tail (Put2.tail Put2.head))))))))))) | exact Put2.tail (Put2.tail (Put2.tail (Put2.tail (Put2.tail (Put2.tail (Put2.tail (Put2.tail (Put2.tail (Put2.tail (Put2.tail (Put2.tail (Put2.tail Put2.head)))))))))))) | exact Put2.tail (Put2.tail (Put2.tail (Put2.tail (Put2.tail (Put2.tail (Put2.tail (Put2.tail (Put2.tail (Put2.tail (Put2.tail (Put2.tail (Put2.tail (Put2.tail Put2.head))))))))))))) | exact Put2.tail (Put2.tail (Put2.tail (Put2.tail (Put2.tail (Put2.tail (Put2.tail (Put2.tail (Put2.tail (Put2.tail (Put2.tail (Put2.tail (Put2.tail (Put2.tail (Put2.tail Put2.head)))))))))))))) | exact Put2.tail (Put2.tail (Put2.tail (Put2.tail (Put2.tail (Put2.tail (Put2.tail (Put2.tail (Put2.tail (Put2.tail (Put2.tail (Put2.tail (Put2.tail (Put2.tail (Put2.tail (Put2.tail Put2.head))))))))))))))) | exact Put2.tail (Put2.tail (Put2.tail (Put2.tail (Put2.tail (Put2.tail (Put2.tail (Put2.tail (Put2.tail (Put2.tail (Put2.tail (Put2.tail (Put2.tail (Put2.tail (Put2.tail (Put2.tail (Put2.tail Put2.head)))))))))))))))) | exact Put2.tail (Put2.tail (Put2.tail (Put2.tail (Put2.tail (Put2.tail (Put2.tail (Put2.tail (Put2.tail (Put2.tail (Put2.tail (Put2.tail (Put2.tail (Put2.tail (Put2.tail (Put2.tail (Put2.tail (Put2.tail Put2.head))))))))))))))))) | exact Put2.tail (Put2.tail (Put2.tail (Put2.tail (Put2.tail (Put2.tail (Put2.tail (Put2.tail (Put2.tail (Put2.tail (Put2.tail (Put2.tail (Put2.tail (Put2.tail (Put2.tail (Put2.tail (Put2.tail (Put2.tail (Put2.tail Put2.head)))))))))))))))))) | exact Put2.tail (Put2.tail (Put2.tail (Put2.tail (Put2.tail (Put2.tail (Put2.tail (Put2.tail (Put2.tail (Put2.tail (Put2.tail (Put2.tail (Put2.tail (Put2.tail (Put2.tail (Put2.tail (Put2.tail (Put2.tail (Put2.tail (Put2.tail Put2.head))))))))))))))))))) | exact Put2.tail (Put2.tail (Put2.tail (Put2.tail (Put2.tail (Put2.tail (Put2.tail (Put2.tail (Put2.tail (Put2.tail (Put2.tail (Put2.tail (Put2.tail (Put2.tail (Put2.tail (Put2.tail (Put2.tail (Put2.tail (Put2.tail (Put2.tail (Put2.tail Put2.head)))))))))))))))))))) | exact Put2.tail (Put2.tail (Put2.tail (Put2.tail (Put2.tail (Put2.tail (Put2.tail (Put2.tail (Put2.tail (Put2.tail (Put2.tail (Put2.tail (Put2.tail (Put2.tail (Put2.tail (Put2.tail (Put2.tail (Put2.tail (Put2.tail (Put2.tail (Put2.tail (Put2.tail Put2.head))))))))))))))))))))) | exact Put2.tail (Put2.tail (Put2.tail (Put2.tail (Put2.tail (Put2.tail (Put2.tail (Put2.tail (Put2.tail (Put2.tail (Put2.tail (Put2.tail (Put2.tail (Put2.tail (Put2.tail (Put2.tail (Put2.tail (Put2.tail (Put2.tail (Put2.tail (Put2.tail (Put2.tail (Put2.tail Put2.head))))))))))))))))))))))))
local macro_rules | `(tactic| walk_at "lput") => `(tactic| with_reducible (first | exact LPut.head | exact LPut.tail LPut.head | exact LPut.tail (LPut.tail LPut.head) | exact LPut.tail (LPut.tail (LPut.tail LPut.head)) | exact LPut.tail (LPut.tail (LPut.tail (LPut.tail LPut.head))) | exact LPut.tail (LPut.tail (LPut.tail (LPut.tail (LPut.tail LPut.head)))) | exact LPut.tail (LPut.tail (LPut.tail (LPut.tail (LPut.tail (LPut.tail LPut.head))))) | exact LPut.tail (LPut.tail (LPut.tail (LPut.tail (LPut.tail (LPut.tail (LPut.tail LPut.head)))))) | exact LPut.tail (LPut.tail (LPut.tail (LPut.tail (LPut.tail (LPut.tail (LPut.tail (LPut.tail LPut.head))))))) | exact LPut.tail (LPut.tail (LPut.tail (LPut.tail (LPut.tail (LPut.tail (LPut.tail (LPut.tail (LPut.tail LPut.head)))))))) | exact LPut.tail (LPut.tail (LPut.tail (LPut.tail (LPut.tail (LPut.tail (LPut.tail (LPut.tail (LPut.tail (LPut.tail LPut.head))))))))) | exact LPut.tail (LPut.tail (LPut.tail (LPut.tail (LPut.tail (LPut.tail (LPut.tail (LPut.tail (LPut.tail (LPut.tail (LPut.tail LPut.head)))))))))) | exact LPut.tail (LPut.tail (LPut.tail (LPut.tail (LPut.tail (LPut.tail (LPut.tail (LPut.tail (LPut.tail (LPut.tail (LPut.tail (LPut.tail LPut.head))))))))))) | exact LPut.tail (LPut.tail (LPut.tail (LPut.tail (LPut.tail (LPut.tail (LPut.tail (LPut.tail (LPut.tail (LPut.tail (LPut.tail (LPut.tail (LPut.tail LPut.head)))))))))))) | exact LPut.tail (LPut.tail (LPut.tail (LPut.tail (LPut.tail (LPut.tail (LPut.tail (LPut.tail (LPut.tail (LPut.tail (LPut.tail (LPut.tail (LPut.tail (LPut.tail LPut.head))))))))))))) | exact LPut.tail (LPut.tail (LPut.tail (LPut.tail (LPut.tail (LPut.tail (LPut.tail (LPut.tail (LPut.tail (LPut.tail (LPut.tail (LPut.tail (LPut.tail (LPut.tail (LPut.tail LPut.head))))))))))))))))
local macro_rules | `(tactic| walk_at "mem") => `(tactic| with_reducible (first | exact List.mem_cons_self | exact List.mem_cons_of_mem _ List.mem_cons_self | exact List.mem_cons_of_mem _ (List.mem_cons_of_mem _ List.mem_cons_self) | exact List.mem_cons_of_mem _ (List.mem_cons_of_mem _ (List.mem_cons_of_mem _ List.mem_cons_self)) | exact List.mem_cons_of_mem _ (List.mem_cons_of_mem _ (List.mem_cons_of_mem _ (List.mem_cons_of_mem _ List.mem_cons_self))) | exact List.mem_cons_of_mem _ (List.mem_cons_of_mem _ (List.mem_cons_of_mem _ (List.mem_cons_of_mem _ (List.mem_cons_of_mem _ List.mem_cons_self)))) | exact List.mem_cons_of_mem _ (List.mem_cons_of_mem _ (List.mem_cons_of_mem _ (List.mem_cons_of_mem _ (List.mem_cons_of_mem _ (List.mem_cons_of_mem _ List.mem_cons_self))))) | exact List.mem_cons_of_mem _ (List.mem_cons_of_mem _ (List.mem_cons_of_mem _ (List.mem_cons_of_mem _ (List.mem_cons_of_mem _ (List.mem_cons_of_mem _ (List.mem_cons_of_mem _ List.mem_cons_self)))))) | exact List.mem_cons_of_mem _ (List.mem_cons_of_mem _ (List.mem_cons_of_mem _ (List.mem_cons_of_mem _ (List.mem_cons_of_mem _ (List.mem_cons_of_mem _ (List.mem_cons_of_mem _ (List.mem_cons_of_mem _ List.mem_cons_self))))))) | exact List.mem_cons_of_mem _ (List.mem_cons_of_mem _ (List.mem_cons_of_mem _ (List.mem_cons_of_mem _ (List.mem_cons_of_mem _ (List.mem_cons_of_mem _ (List.mem_cons_of_mem _ (List.mem_cons_of_mem _ (List.mem_cons_of_mem _ List.mem_cons_self)))))))) | exact List.mem_cons_of_mem _ (List.mem_cons_of_mem _ (List.mem_cons_of_mem _ (List.mem_cons_of_mem _ (List.mem_cons_of_mem _ (List.mem_cons_of_mem _ (List.mem_cons_of_mem _ (List.mem_cons_of_mem _ (List.mem_cons_of_mem _ (List.mem_cons_of_mem _ List.mem_cons_self))))))))) | exact List.mem_cons_of_mem _ (List.mem_cons_of_mem _ (List.mem_cons_of_mem _ (List.mem_cons_of_mem _ (List.mem_cons_of_mem _ (List.mem_cons_of_mem _ (List.mem_cons_of_mem _ (List.mem_cons_of_mem _ (List.mem_cons_of_mem _ (List.mem_cons_of_mem _ (List.mem_cons_of_mem _ List.mem_cons_self)))))))))) | exact List.mem_cons_of_mem _ (List.mem_cons_of_mem _ (List.mem_cons_of_mem _ (List.mem_cons_of_mem _ (List.mem_cons_of_mem _ (List.mem_cons_of_mem _ (List.mem_cons_of_mem _ (List.mem_cons_of_mem _ (List.mem_cons_of_mem _ (List.mem_cons_of_mem _ (List.mem_cons_of_mem _ (List.mem_cons_of_mem _ List.mem_cons_self))))))))))) | exact List.mem_cons_of_mem _ (List.mem_cons_of_mem _ (List.mem_cons_of_mem _ (List.mem_cons_of_mem _ (List.mem_cons_of_mem _ (List.mem_cons_of_mem _ (List.mem_cons_of_mem _ (List.mem_cons_of_mem _ (List.mem_cons_of_mem _ (List.mem_cons_of_mem _ (List.mem_cons_of_mem _ (List.mem_cons_of_mem _ (List.mem_cons_of_mem _ List.mem_cons_self)))))))))))) | exact List.mem_cons_of_mem _ (List.mem_cons_of_mem _ (List.mem_cons_of_mem _ (List.mem_cons_of_mem _ (List.mem_cons_of_mem _ (List.mem_cons_of_mem _ (List.mem_cons_of_mem _ (List.mem_cons_of_mem _ (List.mem_cons_of_mem _ (List.mem_cons_of_mem _ (List.mem_cons_of_mem _ (List.mem_cons_of_mem _ (List.mem_cons_of_mem _ (List.mem_cons_of_mem _ List.mem_cons_self))))))))))))) | exact List.mem_cons_of_mem _ (List.mem_cons_of_mem _ (List.mem_cons_of_mem _ (List.mem_cons_of_mem _ (List.mem_cons_of_mem _ (List.mem_cons_of_mem _ (List.mem_cons_of_mem _ (List.mem_cons_of_mem _ (List.mem_cons_of_mem _ (List.mem_cons_of_mem _ (List.mem_cons_of_mem _ (List.mem_cons_of_mem _ (List.mem_cons_of_mem _ (List.mem_cons_of_mem _ (List.mem_cons_of_mem _ List.mem_cons_self)))))))))))))) | exact List.mem_cons_of_mem _ (List.mem_cons_of_mem _ (List.mem_cons_of_mem _ (List.mem_cons_of_mem _ (List.mem_cons_of_mem _ (List.mem_cons_of_mem _ (List.mem_cons_of_mem _ (List.mem_cons_of_mem _ (List.mem_cons_of_mem _ (List.mem_cons_of_mem _ (List.mem_cons_of_mem _ (List.mem_cons_of_mem _ (List.mem_cons_of_mem _ (List.mem_cons_of_mem _ (List.mem_cons_of_mem _ (List.mem_cons_of_mem _ List.mem_cons_self))))))))))))))) | exact List.mem_cons_of_mem _ (List.mem_cons_of_mem _ (List.mem_cons_of_mem _ (List.mem_cons_of_mem _ (List.mem_cons_of_mem _ (List.mem_cons_of_mem _ (List.mem_cons_of_mem _ (List.mem_cons_of_mem _ (List.mem_cons_of_mem _ (List.mem_cons_of_mem _ (List.mem_cons_of_mem _ (List.mem_cons_of_mem _ (List.mem_cons_of_mem _ (List.mem_cons_of_mem _ (List.mem_cons_of_mem _ (List.mem_cons_of_mem _ (List.mem_cons_of_mem _ List.mem_cons_self)))))))))))))))) | exact List.mem_cons_of_mem _ (List.mem_cons_of_mem _ (List.mem_cons_of_mem _ (List.mem_cons_of_mem _ (List.mem_cons_of_mem _ (List.mem_cons_of_mem _ (List.mem_cons_of_mem _ (List.mem_cons_of_mem _ (List.mem_cons_of_mem _ (List.mem_cons_of_mem _ (List.mem_cons_of_mem _ (List.mem_cons_of_mem _ (List.mem_cons_of_mem _ (List.mem_cons_of_mem _ (List.mem_cons_of_mem _ (List.mem_cons_of_mem _ (List.mem_cons_of_mem _ (List.mem_cons_of_mem _ List.mem_cons_self))))))))))))))))) | exact List.mem_cons_of_mem _ (List.mem_cons_of_mem _ (List.mem_cons_of_mem _ (List.mem_cons_of_mem _ (List.mem_cons_of_mem _ (List.mem_cons_of_mem _ (List.mem_cons_of_mem _ (List.mem_cons_of_mem _ (List.mem_cons_of_mem _ (List.mem_cons_of_mem _ (List.mem_cons_of_mem _ (List.mem_cons_of_mem _ (List.mem_cons_of_mem _ (List.mem_cons_of_mem _ (List.mem_cons_of_mem _ (List.mem_cons_of_mem _ (List.mem_cons_of_mem _ (List.mem_cons_of_mem _ (List.mem_cons_of_mem _ List.mem_cons_self)))))))))))))))))) | exact List.mem_cons_of_mem _ (List.mem_cons_of_mem _ (List.mem_cons_of_mem _ (List.mem_cons_of_mem _ (List.mem_cons_of_mem _ (List.mem_cons_of_mem _ (List.mem_cons_of_mem _ (List.mem_cons_of_mem _ (List.mem_cons_of_mem _ (List.mem_cons_of_mem _ (List.mem_cons_of_mem _ (List.mem_cons_of_mem _ (List.mem_cons_of_mem _ (List.mem_cons_of_mem _ (List.mem_cons_of_mem _ (List.mem_cons_of_mem _ (List.mem_cons_of_mem _ (List.mem_cons_of_mem _ (List.mem_cons_of_mem _ (List.mem_cons_of_mem _ List.mem_cons_self))))))))))))))))))) | exact List.mem_cons_of_mem _ (List.mem_cons_of_mem _ (List.mem_cons_of_mem _ (List.mem_cons_of_mem _ (List.mem_cons_of_mem _ (List.mem_cons_of_mem _ (List.mem_cons_of_mem _ (List.mem_cons_of_mem _ (List.mem_cons_of_mem _ (List.mem_cons_of_mem _ (List.mem_cons_of_mem _ (List.mem_cons_of_mem _ (List.mem_cons_of_mem _ (List.mem_cons_of_mem _ (List.mem_cons_of_mem _ (List.mem_cons_of_mem _ (List.mem_cons_of_mem _ (List.mem_cons_of_mem _ (List.mem_cons_of_mem _ (List.mem_cons_of_mem _ (List.mem_cons_of_mem _ List.mem_cons_self)))))))))))))))))))) | exact List.mem_cons_of_mem _ (List.mem_cons_of_mem _ (List.mem_cons_of_mem _ (List.mem_cons_of_mem _ (List.mem_cons_of_mem _ (List.mem_cons_of_mem _ (List.mem_cons_of_mem _ (List.mem_cons_of_mem _ (List.mem_cons_of_mem _ (List.mem_cons_of_mem _ (List.mem_cons_of_mem _ (List.mem_cons_of_mem _ (List.mem_cons_of_mem _ (List.mem_cons_of_mem _ (List.mem_cons_of_mem _ (List.mem_cons_of_mem _ (List.mem_cons_of_mem _ (List.mem_cons_of_mem _ (List.mem_cons_of_mem _ (List.mem_cons_of_mem _ (List.mem_cons_of_mem _ (List.mem_cons_of_mem _ List.mem_cons_self))))))))))))))))))))) | exact List.mem_cons_of_mem _ (List.mem_cons_of_mem _ (List.mem_cons_of_mem _ (List.mem_cons_of_mem _ (List.mem_cons_of_mem _ (List.mem_cons_of_mem _ (List.mem_cons_of_mem _ (List.mem_cons_of_mem _ (List.mem_cons_of_mem _ (List.mem_cons_of_mem _ (List.mem_cons_of_mem _ (List.mem_cons_of_mem _ (List.mem_cons_of_mem _ (List.mem_cons_of_mem _ (List.mem_cons_of_mem _ (List.mem_cons_of_mem _ (List.mem_cons_of_mem _ (List.mem_cons_of_mem _ (List.mem_cons_of_mem _ (List.mem_cons_of_mem _ (List.mem_cons_of_mem _ (List.mem_cons_of_mem _ (List.mem_cons_of_mem _ List.mem_cons_self))))))))))))))))))))))))
local macro_rules | `(tactic| walk_at "gv") => `(tactic| fail "no name")
theorem relabel_lookup {scope : Scope} {env : Env} {x : Str} {k : NameKind} (h : scope.names.lookup x = some k) :
    (relabel scope env).names.lookup x = some k ∨ (k = .free ∧ (relabel scope env).names.lookup x = some .cell) := by
  unfold relabel
  simp only
  generalize scope.names = names at h
  induction names with
  | nil => cases h
  | cons p r ih =>
    obtain ⟨n, q⟩ := p
    rw [List.lookup_cons] at h
    rw [List.map_cons]
    cases hb : x == n with
    | true =>
      rw [hb] at h
      cases h
      simp only
      split
      · rename_i hc
        simp only [Bool.and_eq_true] at hc
        right
        refine ⟨by simpa using hc.1.1, ?_⟩
        rw [List.lookup_cons, hb]
      · left; rw [List.lookup_cons, hb]
    | false =>
      rw [hb] at h
      have := ih h
      simp only
      split <;> (rw [List.lookup_cons, hb]; exact this)

theorem kindOf_rel {cenv env : Env} {scope : Scope} {x : Str} {k : NameKind} (e : cenv.scope = relabel scope env) (l : scope.names.lookup x = some k) (hk : k ≠ .free) : cenv.kindOf x = some k := by
  unfold Env.kindOf; rw [e]
  rcases relabel_lookup (env := env) l with r | ⟨r, _⟩
  · exact r
  · exact absurd r hk
local macro_rules | `(tactic| walk_at "kind") => `(tactic| first | exact kindOf_of (by assumption) (by rfl) | exact kindOf_rel (by assumption) (by rfl) (by decide))
set_option hygiene false in
local macro_rules | `(tactic| walk_at "name") => `(tactic| first
  | (refine' Wp_var S ?q1 ?_ ?q2; (case q1 => walk_at "at2"); (case q2 => with_unfolding_all decide))
  | (refine' Wp_cap S ?q1 ?_ ?q2 ?q3; (case q1 => walk_at "mem"); (case q2 => with_unfolding_all decide); (case q3 => with_unfolding_all decide))
  | (refine' Wp_gv S ?q1 ?q2 ?_ ?q3; (case q1 => with_reducible (walk_at "gv")); (case q2 => with_unfolding_all (walk_at "kind")); (case q3 => with_unfolding_all decide)))
set_option hygiene false in
local macro_rules | `(tactic| walk_at "store") => `(tactic| (refine' Wp_store S ?q1 ?_; (case q1 => walk_at "put2"); clear S; intro h S))
set_option hygiene false in
local macro_rules | `(tactic| walk_at "m") => `(tactic| with_reducible first
  | refine Wp_execs_cons ?_
  | refine Wp_execs_nil ?_
  | refine Wp_Assign_Name ?_ (by with_unfolding_all rfl)
  | (show Wp _ _ (eval (PySem.Expr.Name _ _) _) _ _; walk_at "name")
  | walk_at "store"
  | refine Wp_If ?_
  | refine Wp_tCompare ?_
  | refine Wp_tNot ?_
  | refine Wp_tBool ?_
  | refine Wp_Return ?_
  | refine Wp_BinOp ?_
  | refine Wp_Compare ?_
  | (refine Wp_int ?_; intro t)
  | refine Wp_none ?_
  | refine Wp_bool ?_
  | (refine Wp_add ?_; intro t)
  | (refine Wp_sub ?_; intro t)
  | refine Wp_lt ?_
  | refine Wp_le ?_
  | refine Wp_gt ?_
  | refine Wp_ge ?_
  | refine Wp_eq ?_
  | refine Wp_ne ?_
  | refine Wp_truthy_bool ?_
  | refine Wp_Call ?_
  | refine Wp_args_cons ?_ (by with_unfolding_all rfl)
  | refine Wp_args_nil ?_
  | refine Wp_Sub ?_
  | refine Wp_IfExp ?_
  | refine Wp_While ?_
  | refine Wp_For ?_ (by intro _; with_unfolding_all rfl)
  | refine Wp_AugAssign_Name ?_
  | (refine' Wp_loadVar S ?q1 ?_; (case q1 => walk_at "at2"))
  | (refine Wp_iadd ?_; intro t)
  | refine Wp_letOwned_Name ?_
  | refine Wp_assign_Name ?_
  | refine Wp_List ?_
  | refine Wp_Tuple ?_
  | refine Wp_UnaryOp ?_
  | (refine Wp_neg ?_; intro t)
  | (refine Wp_fdiv (by with_unfolding_all decide) (by with_unfolding_all decide) ?_; intro t)
  | refine Wp_is (by with_unfolding_all rfl) ?_
  | refine Wp_isNot (by with_unfolding_all rfl) ?_
  | refine Wp_else (by with_unfolding_all rfl) ?_
  | refine Wp_then (by with_unfolding_all rfl) ?_
  | refine Wp_else (decide_eq_false (by omega)) ?_
  | refine Wp_then (decide_eq_true (by omega)) ?_)

open PySem PySem.W PySem.Calls PyProof.Rows
set_option Elab.async false
theorem bindsPeek {K : Frag} {s : Shared} {fd : FuncData} {args : Args} {binds : List (Str × Value)} (x : K.In s.heap) (e : ∀ S, peek K S (bindArgs fd args) = some binds) : BindsTo s fd args binds :=
  fun M A E Q q Γ p _ => wp_of_peek (M := M) (Γ := Γ) (Q := fun a _ s' => Q a s') (E := fun e _ s' => E e s') x q _ (e _)

/-- binary search by a road: to the right where it says so -/
def bs (right : Nat → Bool) (lo hi : Nat) : Nat :=
  if lo < hi then (if right ((lo + hi) / 2) then bs right ((lo + hi) / 2 + 1) hi else bs right lo ((lo + hi) / 2)) else lo
termination_by hi - lo
decreasing_by all_goals omega

theorem bs_done {R : Nat → Bool} {lo hi : Nat} (h : ¬ lo < hi) : bs R lo hi = lo := by rw [bs, if_neg h]
theorem bs_right {R : Nat → Bool} {lo hi : Nat} (h : lo < hi) (r : R ((lo + hi) / 2) = true) : bs R lo hi = bs R ((lo + hi) / 2 + 1) hi := by rw [bs, if_pos h, if_pos r]
theorem bs_left {R : Nat → Bool} {lo hi : Nat} (h : lo < hi) (r : R ((lo + hi) / 2) = false) : bs R lo hi = bs R lo ((lo + hi) / 2) := by rw [bs, if_pos h, if_neg (by rw [r]; decide)]
theorem mid_eq (lo hi : Nat) : ((lo : Int) + (hi : Int)).fdiv 2 = ((lo + hi) / 2 : Nat) := by
  rw [Int.fdiv_eq_ediv_of_nonneg _ (by omega)]; omega
theorem intsAt {vs : List Value} {ns : List Int} (h : IntsAre vs ns) {i : Nat} (hi : i < ns.length) : ∃ t, vs[i]? = some (.int (ns.getD i 0) t) := by
  obtain ⟨t, ht⟩ := h.get i (ns.getD i 0) (by simp [hi])
  exact ⟨t, ht⟩
theorem Wp_mid {prog : Program} {w : World} {A : Around} {h : Heap} {lo hi : Nat} {t u : Tok} {Q : Value → Heap → Prop} (H : ∀ t, Q (.int ((lo + hi) / 2 : Nat) t) h) :
    Wp (model prog w) A (binaryOp .FloorDiv (.int ((lo : Int) + (hi : Int)) t) (.int 2 u)) Q h := Wp_fdiv (by decide) (by decide) (fun t => by rw [mid_eq]; exact H t)
theorem isListExt {h h' : Heap} {a : Addr} {xs : Array Value} (x : h.IsList a xs) (e : Ext h h') : h'.IsList a xs := let ⟨o, p, q⟩ := x; ⟨o, e _ _ p, q⟩
/-- what a def's body hands on -/
def flowVal : Flow → Value
  | .ret v => v
  | _ => .none
theorem Wp_enter {prog : Program} {w : World} {A : Around} {h : Heap} {K : Frag} {g : Heap} {N : List (Addr × Cn)} {n : Nat} {name qual : Str} {params : Arguments} {body : List Stmt} {scope : Scope} {dV kV doc pm cdv ct oc : Value} {an od : Option Addr} {osl : Array (Option Value)} {f : Addr} {pos : List Value} {kw : List (Str × Value)} {Q : Value → Heap → Prop}
    (vars : List Str) (binds : List (Str × Value)) (vals : List (Option Value)) (wd : Wd K g) (keep : Ext g h) (hN : ∀ p ∈ N, IsAt h p.1 p.2 ∧ g.get? p.1 = none) (ndN : (N.map (·.1)).Nodup) (hA : Ok A (n + 1))
    (ho : K.lookup f = some ⟨oc, od, .func (fnOf name qual params body scope dV kV doc pm an cdv ct), osl⟩) (hcd : codeIn K cdv qual = true)
    (hbind : ∀ S, peek K S (bindArgs (fnOf name qual params body scope dV kV doc pm an cdv ct) ⟨pos, kw⟩) = some binds) (hvals : bindVals vars binds = vals)
    (hkind : (binds.all fun y => scope.names.lookup y.1 == some .local || scope.names.lookup y.1 == some .cell) = true)
    (hv : (vars.all fun y => scope.names.lookup y == some .local || scope.names.lookup y == some .cell) = true) (hnd : vars.Nodup)
    (H : ∀ (e : Env) h₁, e.scope = scope → Ext h h₁ → h.get? e.locals = none → Ok (A.deeper e) n → St K g e vars vals [] N h₁ →
      Wp (model prog w) (A.deeper e) (execs body e) (fun fl h₂ => Q (flowVal fl) h₂) h₁)
    (hco : scope.isCoroutine = false := by rfl) (hgen : scope.isGenerator = false := by rfl) (hk : scope.kind = .function := by rfl) :
    Wp (model prog w) A (call (.ref f) pos kw) Q h := by
  subst hvals
  refine Wp_call (Cp_enter vars wd keep hN ndN hA ho hcd (fun s hs => bindsPeek (hs ▸ wd.K.keeps keep) hbind) hkind hv hnd (fun e h₁ a b c d S => (H e h₁ a b c d S).mono fun fl h₂ q => ?_) hco hgen hk)
  exact ⟨_, rfl, by cases fl <;> exact q⟩

open PySem PySem.W PySem.Calls PyProof.Rows
set_option Elab.async false

/- the tests of a clause -/
def tests (ifs : List Expr) (env : Env) : Sem Bool :=
  forIn ifs true fun c r => if r = true then do let ok ← isTrue c env (eval c env); pure (ForInStep.yield ok) else pure (ForInStep.yield r)

section
variable {prog : Program} {w : World} {A : Around} {h : Heap} {env : Env}
theorem Wp_tests_nil {Q : Bool → Heap → Prop} (H : Q true h) : Wp (model prog w) A (tests [] env) Q h := Wp_pure H
theorem Wp_tests_one {c : Expr} {Q : Bool → Heap → Prop} (H : Wp (model prog w) A (isTrue c env (eval c env)) Q h) : Wp (model prog w) A (tests [c] env) Q h :=
  fun _ _ e => wpAny_tests_one (H.out e fun _ _ e q => ⟨e, q⟩)

def emitS (elt : Expr) (acc : Value) (env : Env) : Sem Unit := do let _ ← call (.builtin "list.append") [acc, ← eval elt env]
theorem Wp_emit {elt : Expr} {acc : Value} {Q : Unit → Heap → Prop} (H : Wp (model prog w) A (eval elt env) (fun x h₁ => Wp (model prog w) A (call (.builtin "list.append") [acc, x]) (fun _ => Q ()) h₁) h) :
    Wp (model prog w) A (emitS elt acc env) Q h := Wp_bind (H.mono fun _ _ H₁ => Wp_bind (H₁.mono fun _ _ q => Wp_pure q))

/-- one turn of a comprehension's clause -/
def turnS (p : Pos) (target : Expr) (ifs : List Expr) (emit : Sem Fin) (c : Code) (it : Value) (env : Env) : Sem Fin := do
  standAt p
  match ← pyNext it with
  | none => pure (.done .next)
  | some v =>
    letOwnedTupleGo target it v
    assign target env v
    let ok ← tests ifs env
    if ok then emit else again c

theorem turn1 (elt target iter : Expr) (ifs : List Expr) (scope : Scope) (pos : Pos) (it acc : Value) (env : Env) :
    compTurn (.ListComp elt [⟨target, iter, ifs, 0⟩] scope pos) 0 it acc env =
      turnS iter.pos target ifs (emitS elt acc env >>= fun _ => again (.compLoop (.ListComp elt [⟨target, iter, ifs, 0⟩] scope pos) 0 it acc env)) (.compLoop (.ListComp elt [⟨target, iter, ifs, 0⟩] scope pos) 0 it acc env) it env := rfl
theorem turn2b (elt target iter : Expr) (ifs : List Expr) (g₀ : Comprehension) (scope : Scope) (pos : Pos) (it acc : Value) (env : Env) :
    compTurn (.ListComp elt [g₀, ⟨target, iter, ifs, 0⟩] scope pos) 1 it acc env =
      turnS iter.pos target ifs (emitS elt acc env >>= fun _ => again (.compLoop (.ListComp elt [g₀, ⟨target, iter, ifs, 0⟩] scope pos) 1 it acc env)) (.compLoop (.ListComp elt [g₀, ⟨target, iter, ifs, 0⟩] scope pos) 1 it acc env) it env := rfl
def innerS (elt : Expr) (gens : List Comprehension) (scope : Scope) (pos : Pos) (iter : Expr) (acc : Value) (env : Env) (c : Code) : Sem Fin := do
  let x ← eval iter env
  standAt iter.pos
  let x ← foldedSetIterable iter env x
  let _ ← runOwn (.compStart (.ListComp elt gens scope pos) 1 (← holding [x] (pyIter x)) acc env) env
  again c
theorem turn2a (elt target iter target' iter' : Expr) (ifs ifs' : List Expr) (scope : Scope) (pos : Pos) (it acc : Value) (env : Env) :
    compTurn (.ListComp elt [⟨target, iter, ifs, 0⟩, ⟨target', iter', ifs', 0⟩] scope pos) 0 it acc env =
      turnS iter.pos target ifs (innerS elt [⟨target, iter, ifs, 0⟩, ⟨target', iter', ifs', 0⟩] scope pos iter' acc env (.compLoop (.ListComp elt [⟨target, iter, ifs, 0⟩, ⟨target', iter', ifs', 0⟩] scope pos) 0 it acc env)) (.compLoop (.ListComp elt [⟨target, iter, ifs, 0⟩, ⟨target', iter', ifs', 0⟩] scope pos) 0 it acc env) it env := rfl
end

section
variable {prog : Program} {w : World} {A : Around} {K : Frag} {g h : Heap} {env : Env} {vars : List Str} {vals : List (Option Value)} {caps : List (Str × Value)} {N : List (Addr × Cn)}

theorem Cp_compLoop {elt target : Expr} {gens : List Comprehension} {scope : Scope} {pos : Pos} {ifs : List Expr} {emit : Sem Fin} {p : Pos} {d : Nat} {acc : Value} {Q : Flow → Heap → Prop} {I : Addr}
    (heq : compTurn (.ListComp elt gens scope pos) d (.ref I) acc env = turnS p target ifs emit (.compLoop (.ListComp elt gens scope pos) d (.ref I) acc env) (.ref I) env)
    (src : Src) (Inv : Nat → Heap → List (Option Value) → List (Addr × Cn) → Prop) (hA : A.handled = none)
    (S : St K g env vars vals caps ((I, src.cn 0) :: N) h) (h0 : Inv 0 g vals N)
    (base : ∀ i g vals N h, Inv i g vals N → St K g env vars vals caps ((I, src.cn i) :: N) h → src.base h)
    (turn : ∀ i v g vals N h, i < src.len → src.item i v → Inv i g vals N → St K g env vars vals caps ((I, src.cn (i + 1)) :: N) h →
      Wp (model prog w) A (letOwnedTupleGo target (.ref I) v) (fun _ h₀ => Wp (model prog w) A (assign target env v) (fun _ h₁ => Wp (model prog w) A (tests ifs env) (fun ok h₂ =>
        Wp (model prog w) A (cond ok emit (again (.compLoop (.ListComp elt gens scope pos) d (.ref I) acc env))) (fun fin h₃ => fin = .again (.compLoop (.ListComp elt gens scope pos) d (.ref I) acc env) ∧
          ∃ g' vals' N', Inv (i + 1) g' vals' N' ∧ St K g' env vars vals' caps ((I, src.cn (i + 1)) :: N') h₃) h₂) h₁) h₀) h)
    (done : ∀ g vals N h, Inv src.len g vals N → St K g env vars vals caps N h → Q .next h) :
    Cp (model prog w) A (.compLoop (.ListComp elt gens scope pos) d (.ref I) acc env) Q h := fun s hs => by
  refine codeAny_loop rfl (fun n s' => Same s s' ∧ ∃ i g vals N, n = src.len - i ∧ i ≤ src.len ∧ Inv i g vals N ∧ St K g env vars vals caps ((I, src.cn i) :: N) s'.heap) (fun n s' hI => ?_) src.len
    ⟨Same.rfl' s, 0, g, vals, N, rfl, Nat.zero_le _, h0, hs ▸ S⟩
  obtain ⟨e₀, i, g, vals, N, rfl, hi, hI, S⟩ := hI
  show wpAny _ A ((compTurn (.ListComp elt gens scope pos) d (.ref I) acc env).onRaise (fun x => do noteFrame x env; theTreesLotGoes x)) _ _ s'
  refine wpAny_noted ?_
  rw [heq]
  unfold turnS
  refine wpAny_bind (wpAny_standAt (wpAny_bind ?_))
  by_cases hl : i < src.len
  · refine (next_item (S.at (.head _)) (base i g vals N _ hI S) hl (Q := fun r h' => match r with | none => False | some v => src.item i v ∧ St K g env vars vals caps ((I, src.cn (i + 1)) :: N) h')
      (fun v h' hv hc hx => ⟨hv, S.upd .head hx hc⟩)).out rfl fun r s₁ e₁ q => ?_
    cases r with
    | none => exact q.elim
    | some v =>
      refine wpAny_bind ((turn i v g vals N _ hl q.1 hI q.2).out rfl fun _ s₁' e₁' q => wpAny_bind (q.out rfl fun _ s₂ e₂ q => ?_))
      refine wpAny_bind (q.out rfl fun ok s₃ e₃ q => ?_)
      have ee := (((e₀.trans e₁).trans e₁').trans e₂).trans e₃
      cases ok with
      | true =>
        refine q.out rfl fun fin s₄ e₄ q => ?_
        obtain ⟨rfl, g', vals', N', hI', S'⟩ := q
        exact ⟨rfl, _, by omega, ee.trans e₄, i + 1, g', vals', N', rfl, hl, hI', S'⟩
      | false =>
        refine q.out rfl fun fin s₄ e₄ q => ?_
        obtain ⟨rfl, g', vals', N', hI', S'⟩ := q
        exact ⟨rfl, _, by omega, ee.trans e₄, i + 1, g', vals', N', rfl, hl, hI', S'⟩
  · have hn : i = src.len := by omega
    subst hn
    refine (next_end hA (S.at (.head _)) (base _ g vals N _ hI S) (Q := fun r h' => r = none ∧ St K g env vars vals caps N h') (fun h' hx => ⟨rfl, S.lose hx⟩)).out rfl fun r s₁ e₁ q => ?_
    obtain ⟨rfl, S'⟩ := q
    exact wpAny_pure ⟨_, rfl, e₀.trans e₁, done g vals N _ hI S'⟩
end

open PySem PySem.W PySem.Calls PyProof.Rows
set_option Elab.async false

def clOf (env : Env) : List (Str × NameKind) → List (Str × Addr) → List (Str × Addr)
  | [], acc => acc
  | (n, k) :: r, acc => if k == .free then clOf env r ((n, (env.cells.lookup n).getD 0) :: acc) else clOf env r acc

theorem closure_loop {env : Env} : ∀ (names : List (Str × NameKind)) (acc : List (Str × Addr)), (∀ x ∈ names, x.2 = .free → (env.cells.lookup x.1).isSome = true) →
    (forIn names acc fun (x : Str × NameKind) cs => if (x.2 == NameKind.free) = true then do let a ← cellOf env x.1; pure (ForInStep.yield ((x.1, a) :: cs)) else pure (ForInStep.yield cs) : Sem (List (Str × Addr))) = pure (clOf env names acc)
  | [], acc, _ => rfl
  | (n, k) :: r, acc, h => by
    rw [List.forIn_cons]
    unfold clOf
    by_cases hk : (k == NameKind.free) = true
    · obtain ⟨c, hc⟩ := Option.isSome_iff_exists.mp (h (n, k) (.head _) (by simpa using hk))
      simp only [hk, if_true]
      have : cellOf env n = pure c := by unfold cellOf; rw [hc]
      rw [this, hc]
      exact closure_loop r _ fun x hx => h x (.tail _ hx)
    · simp only [hk]
      exact closure_loop r _ fun x hx => h x (.tail _ hx)

theorem closureFor_eq {scope : Scope} {env : Env} (h : ∀ x ∈ scope.names, x.2 = .free → (env.cells.lookup x.1).isSome = true) : closureFor scope env = pure (clOf env scope.names []) := by
  have := closure_loop scope.names [] h
  unfold closureFor
  first
    | (refine Eq.trans (congrArg (fun m => m >>= pure) this) rfl)
    | (rw [← this]; rfl)

theorem clOf_entries {env : Env} : ∀ (names : List (Str × NameKind)) (acc : List (Str × Addr)), (∀ x ∈ names, x.2 = .free → (env.cells.lookup x.1).isSome = true) → (∀ p ∈ acc, env.cells.lookup p.1 = some p.2) →
    (∀ p ∈ clOf env names acc, env.cells.lookup p.1 = some p.2) ∧ (∀ x, (x, NameKind.free) ∈ names → x ∈ (clOf env names acc).map (·.1)) ∧ (∀ x ∈ acc.map (·.1), x ∈ (clOf env names acc).map (·.1))
  | [], acc, _, ha => ⟨ha, fun _ hx => (nomatch hx), fun _ hx => hx⟩
  | (n, k) :: r, acc, h, ha => by
    unfold clOf
    by_cases hk : (k == NameKind.free) = true
    · obtain ⟨c, hc⟩ := Option.isSome_iff_exists.mp (h (n, k) (.head _) (by simpa using hk))
      rw [if_pos hk, hc]
      obtain ⟨i1, i2, i3⟩ := clOf_entries r ((n, c) :: acc) (fun x hx => h x (.tail _ hx)) (fun p hp => by
        rcases List.mem_cons.mp hp with rfl | hp
        · exact hc
        · exact ha p hp)
      refine ⟨i1, fun x hx => ?_, fun x hx => i3 x (.tail _ hx)⟩
      rcases List.mem_cons.mp hx with e | hx
      · cases e; exact i3 _ (.head _)
      · exact i2 x hx
    · rw [if_neg hk]
      obtain ⟨i1, i2, i3⟩ := clOf_entries r acc (fun x hx => h x (.tail _ hx)) ha
      refine ⟨i1, fun x hx => ?_, i3⟩
      rcases List.mem_cons.mp hx with e | hx
      · cases e; exact absurd rfl hk
      · exact i2 x hx

theorem lookup_some_of {α : Type} {f : Str → Option α} : ∀ {l : List (Str × α)} {x : Str}, (∀ p ∈ l, f p.1 = some p.2) → x ∈ l.map (·.1) → l.lookup x = f x
  | [], _, _, hx => (nomatch hx)
  | (n, a) :: r, x, h, hx => by
    rw [List.lookup_cons]
    cases hb : x == n with
    | true =>
      have e : x = n := beq_iff_eq.mp hb
      subst e
      exact (h _ (.head _)).symm
    | false =>
      simp only
      refine lookup_some_of (fun p hp => h p (.tail _ hp)) ?_
      rcases List.mem_cons.mp hx with e | hx
      · simp only at e; subst e; simp at hb
      · exact hx

theorem cellsFrom_append : ∀ (names : List (Str × NameKind)) (n : Nat) (acc : List (Str × Addr)), cellsFrom n names acc = cellsFrom n names [] ++ acc
  | [], n, acc => rfl
  | (x, k) :: r, n, acc => by
    unfold cellsFrom
    by_cases hk : (k == NameKind.cell) = true
    · rw [if_pos hk, if_pos hk, cellsFrom_append r (n + 1) ((x, n) :: acc), cellsFrom_append r (n + 1) [(x, n)]]; simp
    · rw [if_neg hk, if_neg hk]; exact cellsFrom_append r n acc
theorem cellsFrom_names : ∀ (names : List (Str × NameKind)) (n : Nat) (p : Str × Addr), p ∈ cellsFrom n names [] → (p.1, NameKind.cell) ∈ names
  | [], n, p, h => (nomatch h)
  | (x, k) :: r, n, p, h => by
    unfold cellsFrom at h
    by_cases hk : (k == NameKind.cell) = true
    · rw [if_pos hk, cellsFrom_append] at h
      rcases List.mem_append.mp h with h | h
      · exact .tail _ (cellsFrom_names r _ p h)
      · simp at h; subst h; have : k = NameKind.cell := by simpa using hk
        subst this; exact .head _
    · rw [if_neg hk] at h; exact .tail _ (cellsFrom_names r n p h)

theorem lookup_mem {α : Type} [DecidableEq α] : ∀ {l : List (Str × α)} {x : Str} {a : α}, (l.map (·.1)).Nodup → (x, a) ∈ l → l.lookup x = some a
  | (n, b) :: r, x, a, nd, h => by
    rw [List.lookup_cons]
    obtain ⟨n1, n2⟩ := List.nodup_cons.mp nd
    rcases List.mem_cons.mp h with e | hm
    · cases e; simp
    · clear h
      have : (x == n) = false := by
        cases hb : x == n with
        | false => rfl
        | true =>
          have e : x = n := beq_iff_eq.mp hb
          subst e
          exact absurd (List.mem_map_of_mem (f := (·.1)) hm) n1
      rw [this]; exact lookup_mem n2 hm

section
variable {M : Model} {A : Around} {E : Value → Shared → Prop} {s : Shared}
theorem wpAny_newCompEnv {scope : Scope} {cl : List (Str × Addr)} {env : Env} {Q : Env → Shared → Prop}
    (H : Q { scope := scope, locals := s.heap.objs.size, globals := env.globals, cells := cellsFrom (s.heap.objs.size + 1) scope.names [] ++ cl, qual := env.qual, func := none, code := env.code, frame := env.frame, builtins := env.builtins }
      { s with heap := pushCells (s.heap.push { cls := .type "dict", data := .dict #[] }) scope.names }) :
    wpAny M A (newFunctionEnv scope env.globals cl [] env.qual none .none (some env)) Q E s := by
  simp only [newFunctionEnv, Option.isSome_some, if_true]
  refine wpAny_bind (wpAny_alloc ?_)
  refine wpAny_bind (wpAny_layCells _ (fun name kind cells => by cases hkc : kind == NameKind.cell <;> simp [hkc]) _ _ _ _ ?_)
  refine wpAny_bind (wpAny_pure (wpAny_pure ?_))
  have e1 : ({ s with heap := s.heap.push { cls := .type "dict", data := .dict #[] } } : Shared).heap.objs.size = s.heap.objs.size + 1 := Heap.size_push ..
  rw [e1, cellsFrom_append]
  exact H
end

open PySem PySem.W PySem.Calls PyProof.Rows
set_option Elab.async false

/-- captured values -/
def CapOk (env : Env) (h : Heap) (p : Str × Value) : Prop := ∃ c, env.cells.lookup p.1 = some c ∧ h.IsCell c (some p.2)
inductive CapsOk (env : Env) (h : Heap) : List (Str × Value) → Prop
  | nil : CapsOk env h []
  | cons {p r} : CapOk env h p → CapsOk env h r → CapsOk env h (p :: r)
theorem CapsOk.all {env h l} (c : CapsOk env h l) : ∀ p ∈ l, CapOk env h p := by
  induction c with
  | nil => intro p hp; cases hp
  | cons a _ ih => intro p hp; rcases List.mem_cons.mp hp with rfl | hp; exact a; exact ih p hp

section
variable {K : Frag} {g h : Heap} {env : Env} {vars : List Str} {vals : List (Option Value)} {caps : List (Str × Value)} {N : List (Addr × Cn)}
theorem St.capVar (S : St K g env vars vals caps N h) {x : Str} {v : Value} (hk : env.kindOf x = some .cell) (a : At2 vars vals x v) : CapOk env h (x, v) := by
  rcases S.kind x a.mem with q | ⟨_, c, u, hc, _, _, hi, hu⟩
  · rw [hk] at q; cases q
  · have := hu v a; subst this; exact ⟨c, hc, hi⟩
theorem St.capCap (S : St K g env vars vals caps N h) {x : Str} {v : Value} (a : (x, v) ∈ caps) : CapOk env h (x, v) := by
  obtain ⟨_, c, hc, hi⟩ := S.caps _ a
  exact ⟨c, hc, hi.keeps S.keep⟩
/-- every free name of the scope has a cell -/
theorem St.free (S : St K g env vars vals caps N h) {sc scope : Scope} (hsc : env.scope = sc)
    (e : (scope.names.all fun x => x.2 != .free || (vars.contains x.1 && sc.names.lookup x.1 == some .cell) || (caps.map (·.1)).contains x.1) = true) :
    ∀ x ∈ scope.names, x.2 = .free → (env.cells.lookup x.1).isSome = true := fun x hx hf => by
  have := List.all_eq_true.mp e x hx
  simp only [Bool.or_eq_true, Bool.and_eq_true, List.contains_iff_mem] at this
  rcases this with (q | ⟨q, q'⟩) | q
  · rw [hf] at q; exact absurd q (by decide)
  · have hk : env.kindOf x.1 = some .cell := kindOf_of hsc (by simpa using q')
    rcases S.kind x.1 q with r | ⟨_, c, _, hc, _⟩
    · rw [hk] at r; cases r
    · rw [hc]; rfl
  · obtain ⟨p, hp, e'⟩ := List.mem_map.mp q
    obtain ⟨_, c, hc, _⟩ := S.caps p hp
    rw [← e', hc]; rfl

theorem St.push' {h' : Heap} {I D : Addr} {c d : Cn} (S : St K g env vars vals caps ((I, c) :: N) h) (e : Heap.ExtBut I h h') (hD : h.get? D = none) (hd : IsAt h' D d) : St K g env vars vals caps ((D, d) :: N) h' := by
  have S' := S.lose e
  refine { S' with news := fun p hp => ?_, nodN := ?_ }
  · rcases List.mem_cons.mp hp with rfl | hp
    · refine ⟨hd, fun q => ?_, ?_, fun x hx hk hl => ?_⟩
      · obtain ⟨o, ho⟩ := S.locals_some; rw [← q] at ho; simp only at ho; rw [hD] at ho; cases ho
      · cases q : g.get? D with
        | none => rfl
        | some o => have := S.keep _ _ q; rw [hD] at this; cases this
      · rcases S.kind x hx with q | ⟨_, c', u, p, _, _, ⟨o, ho, _⟩, _⟩
        · rw [hk] at q; cases q
        · rw [hl] at p; cases p; simp only at ho; rw [hD] at ho; cases ho
    · exact S'.news p hp
  · refine List.nodup_cons.mpr ⟨fun q => ?_, S'.nodN⟩
    obtain ⟨p, hp, e'⟩ := List.mem_map.mp q
    obtain ⟨o, ho⟩ := (S.news p (.tail _ hp)).1.some
    rw [e', hD] at ho; cases ho

/-- an object that the frame does not know is changed -/
theorem St.other {h' : Heap} {C : Addr} {h₀ : Heap} {N₀ vals₀} (S : St K g env vars vals caps N h) (S₀ : St K g env vars vals₀ caps N₀ h₀) (hC : h₀.get? C = none) (hN : ∀ p ∈ N, p.1 ≠ C) (e : Heap.SameBut C h h') : St K g env vars vals caps N h' := by
  have hCL : C ≠ env.locals := fun q => by obtain ⟨o, ho⟩ := S₀.locals_some; rw [← q, hC] at ho; cases ho
  have hCg : g.get? C = none := by
    cases q : g.get? C with
    | none => rfl
    | some o => have := S₀.keep _ _ q; rw [hC] at this; cases this
  have hCc : ∀ x ∈ vars, env.kindOf x = some .cell → env.cells.lookup x ≠ some C := fun x hx hk hl => by
    rcases S₀.kind x hx with q | ⟨_, c', u, p, _, _, ⟨o, ho, _⟩, _⟩
    · rw [hk] at q; cases q
    · rw [hl] at p; cases p; rw [hC] at ho; cases ho
  have kp := e.extBut
  refine { S with keep := fun b o x => kp b o (fun z => by rw [z, hCg] at x; cases x) (S.keep b o x), ns := ?_, kind := fun x hx => ?_, news := fun r hr => ?_ }
  · obtain ⟨m, x, y⟩ := S.ns; exact ⟨m, x.extBut kp (Ne.symm hCL), y⟩
  · refine (S.kind x hx).imp id fun ⟨k, c', u, p', q', r, ⟨o, ho, hd⟩, t⟩ => ⟨k, c', u, p', q', r, ⟨o, kp _ _ (fun z => hCc x hx k (z ▸ p')) ho, hd⟩, t⟩
  · obtain ⟨x, y⟩ := S.news r hr; exact ⟨x.but kp (hN r hr), y⟩
end

/-- a static look at a comprehension's scope -/
def compOk (scope : Scope) (cvars names : List Str) : Bool :=
  scope.kind == .function && decide ((scope.names.map (·.1)).Nodup) && decide cvars.Nodup &&
  (cvars.all fun y => scope.names.lookup y == some .local || scope.names.lookup y == some .cell) &&
  (names.all fun y => scope.names.lookup y == some .free)

/-- a comprehension's loop, entered: what is left to show -/
def CompGoal (prog : Program) (w : World) (A : Around) (K : Frag) (env : Env) (elt : Expr) (gens : List Comprehension) (scope : Scope) (pos : Pos) (it : Value) (Q : Value → Heap → Prop) (h : Heap) : Prop :=
  ∃ I src g vars vals caps N, it = .ref I ∧ St K g env vars vals caps ((I, Src.cn src 0) :: N) h ∧ ∃ (cvars : List Str) (caps' : List (Str × Value)) (P : List Value → Heap → Prop), compOk scope cvars (caps'.map (·.1)) = true ∧ CapsOk env h caps' ∧
    (∀ (cenv : Env) g' D h', cenv.scope = relabel scope env → Heap.ExtBut I h g' → h.get? D = none → St K g' cenv cvars (cvars.map fun _ => none) caps' [(I, Src.cn src 0), (D, .list [])] h' →
      Cp (model prog w) A (.compLoop (.ListComp elt gens scope pos) 0 (.ref I) (.ref D) cenv) (fun _ h₅ => ∃ ys g'' vals'', St K g'' cenv cvars vals'' caps' [(D, .list ys)] h₅ ∧ Ext g' g'' ∧ P ys g'') h') ∧
    (∀ ys g'' D h₅, P ys g'' → Heap.ExtBut I h g'' → Ext g'' h₅ → g''.get? D = none → h.get? D = none → St K g env vars vals caps ((D, .list ys) :: N) h₅ → Q (.ref D) h₅)

theorem iter_self {prog : Program} {w : World} {A : Around} {h : Heap} {I : Addr} {src : Src} {i : Nat} {Q : Value → Heap → Prop} (hi : IsAt h I (src.cn i)) (H : Q (.ref I) h) : Wp (model prog w) A (pyIter (.ref I)) Q h := fun s E hs => by
  subst hs
  obtain ⟨o, ho, hc⟩ := hi
  cases src with
  | lst l vs => exact wpAny_pyIter_listiter ⟨o, ho, hc⟩ ⟨Same.rfl' s, H⟩
  | tpl l vs => exact wpAny_pyIter_tupleiter ⟨o, ho, hc⟩ ⟨Same.rfl' s, H⟩
  | rng a n =>
    have hc' : o = _ := hc
    subst hc'
    exact wpAny_pyIter_rangeiter ho ⟨Same.rfl' s, H⟩
  | rngs a c n =>
    have hc' : o = _ := hc
    subst hc'
    exact wpAny_pyIter_rangeiter ho ⟨Same.rfl' s, H⟩

section
variable {prog : Program} {w : World} {A : Around} {K : Frag}

/-- the comprehension's block: the new list, the frame, the loop -/
theorem comp_block {env : Env} {elt target iter : Expr} {ifs : List Expr} {rest : List Comprehension} {scope : Scope} {pos : Pos} {it : Value} {Q : Value → Heap → Prop} {s₂ : Shared} {E : Value → Shared → Prop} {RR : Value → Addr → Result → Shared → Prop}
    (hfree : ∀ x ∈ scope.names, x.2 = .free → (env.cells.lookup x.1).isSome = true)
    (G : CompGoal prog w A K env elt (⟨target, iter, ifs, 0⟩ :: rest) scope pos it Q s₂.heap)
    (hRR : ∀ I src g vars vals caps N ys D C h₅ tk, St K g env vars vals caps ((I, Src.cn src 0) :: N) s₂.heap → s₂.heap.get? D = none → s₂.heap.get? C = none → C ≠ D → (∃ m, h₅.Ns C m) → St K g env vars vals caps ((D, .list ys) :: N) h₅ →
      (∀ h', Heap.SameBut C h₅ h' → Q (.ref D) h') → RR (.ref D) C (.ok .next) { s₂ with heap := h₅, toks := tk })
    (hR : ∀ v C f s', RR v C (.ok .next) s' → RR v C (.ok f) s') :
    wpAny (model prog w) A (newList []) (fun acc s₃ => wpAny (model prog w) A (newFunctionEnv scope env.globals (clOf env scope.names []) [] env.qual none .none (some env)) (fun cenv s₄ =>
      codeAny (model prog w) A (.compStart (.ListComp elt (⟨target, iter, ifs, 0⟩ :: rest) scope pos) 0 it acc { cenv with scope := relabel scope env }) (RR acc cenv.locals) s₄) E s₃) E s₂ := by
  obtain ⟨I, src, g, vars, vals, caps, N, rfl, S, cvars, caps', P, hok, hcaps, loop, fin⟩ := G
  simp only [compOk, Bool.and_eq_true, decide_eq_true_eq] at hok
  obtain ⟨⟨⟨⟨hkind, hnd⟩, hndc⟩, hcv⟩, hcn⟩ := hok
  have hkind : scope.kind = .function := by simpa using hkind
  refine wpAny_newObj_type (wpAny_newCompEnv ?_)
  generalize hH3 : s₂.heap.push { cls := .type "list", dict := none, data := .seq ([] : List Value).toArray } = H3
  dsimp only
  generalize hH4 : H3.push { cls := .type "dict", data := .dict #[] } = H4
  generalize hH5 : pushCells H4 scope.names = H5
  have hD : s₂.heap.get? s₂.heap.objs.size = none := get?_size_none _
  have hsz3 : H3.objs.size = s₂.heap.objs.size + 1 := by rw [← hH3, Heap.size_push]
  have x3 : Ext s₂.heap H3 := fun b o e => hH3 ▸ Heap.get?_push_of_some _ e
  have x4 : Ext H3 H4 := fun b o e => hH4 ▸ Heap.get?_push_of_some _ e
  have x5 : Ext H4 H5 := fun b o e => hH5 ▸ pushCells_keeps _ _ b o e
  have hCs : s₂.heap.get? H3.objs.size = none := by
    cases q : s₂.heap.get? H3.objs.size with
    | none => rfl
    | some o => exact absurd (Heap.lt_size (x3 _ _ q)) (Nat.lt_irrefl _)
  have hC3 : H3.get? H3.objs.size = none := get?_size_none _
  have hDC : s₂.heap.objs.size ≠ H3.objs.size := by rw [hsz3]; omega
  have hI := S.at (a := I) (c := Src.cn src 0) (.head _)
  have hID : I ≠ s₂.heap.objs.size := fun q => by obtain ⟨o, ho⟩ := hI.some; rw [q, hD] at ho; cases ho
  have hIC : I ≠ H3.objs.size := fun q => by obtain ⟨o, ho⟩ := hI.some; rw [q, hCs] at ho; cases ho
  have hD3 : IsAt H3 s₂.heap.objs.size (.list []) := ⟨_, hH3 ▸ Heap.get?_push_size _ rfl, 0, rfl⟩
  -- the frozen part
  have gx : Heap.ExtBut I s₂.heap (hideAll H3 [I, s₂.heap.objs.size]) := fun b o hb e => hideAll_get _ (x3 _ _ e) (by
    simp only [List.mem_cons, List.not_mem_nil, or_false, not_or]
    exact ⟨hb, fun q => by rw [q, hD] at e; cases e⟩)
  have gg : Ext g (hideAll H3 [I, s₂.heap.objs.size]) := fun b o e => gx b o (fun q => by
    have := (S.news (I, Src.cn src 0) (.head _)).2.2.1
    rw [q, this] at e; cases e) (S.keep b o e)
  have gh : Ext (hideAll H3 [I, s₂.heap.objs.size]) H3 := fun b o e => of_hideAll _ e
  have gD : (hideAll H3 [I, s₂.heap.objs.size]).get? s₂.heap.objs.size = none := hideAll_none _ (.tail _ (.head _))
  have gI : (hideAll H3 [I, s₂.heap.objs.size]).get? I = none := hideAll_none _ (.head _)
  have gno : ∀ a, H3.get? a = none → (hideAll H3 [I, s₂.heap.objs.size]).get? a = none := fun a ha => by
    cases q : (hideAll H3 [I, s₂.heap.objs.size]).get? a with
    | none => rfl
    | some o => rw [gh _ _ q] at ha; cases ha
  generalize hg' : hideAll H3 [I, s₂.heap.objs.size] = g' at gx gg gh gD gI gno
  -- the cells
  have ok := cellsFrom_ok scope.names H4 (H3.objs.size + 1) [] ⟨fun _ _ hm => (nomatch hm), List.Pairwise.nil⟩ (by rw [← hH4, Heap.size_push]; exact Nat.le_refl _)
  have hsz4 : H4.objs.size = H3.objs.size + 1 := by rw [← hH4, Heap.size_push]
  rw [hsz4, hH5] at ok
  obtain ⟨cl1, cl2, _⟩ := clOf_entries scope.names [] hfree (fun p hp => (nomatch hp))
  have own : ∀ x, scope.names.lookup x = some .cell → ∃ c, (cellsFrom (H3.objs.size + 1) scope.names []).lookup x = some c := fun x hx => by
    have := cellsFrom_some (x := x) scope.names (H3.objs.size + 1) [] (.inl hx)
    exact Option.isSome_iff_exists.mp this
  have ownOk : ∀ x c, (cellsFrom (H3.objs.size + 1) scope.names []).lookup x = some c → H5.IsCell c none ∧ H3.objs.size + 1 ≤ c := fun x c hc => ok.empty x c (mem_of_lookup hc)
  have notOwn : ∀ x, scope.names.lookup x = some .free → (cellsFrom (H3.objs.size + 1) scope.names []).lookup x = none := fun x hx => by
    cases q : (cellsFrom (H3.objs.size + 1) scope.names []).lookup x with
    | none => rfl
    | some c =>
      have h1 := cellsFrom_names _ _ _ (mem_of_lookup q)
      have h2 := lookup_mem hnd h1
      rw [hx] at h2; cases h2
  have freeLk : ∀ x, scope.names.lookup x = some .free → (cellsFrom (H3.objs.size + 1) scope.names [] ++ clOf env scope.names []).lookup x = env.cells.lookup x := fun x hx => by
    rw [List.lookup_append, notOwn x hx]
    simp only [Option.none_or]
    exact lookup_some_of (f := fun n => env.cells.lookup n) cl1 (cl2 x (mem_of_lookup hx))
  have ownLk : ∀ x c, (cellsFrom (H3.objs.size + 1) scope.names []).lookup x = some c → (cellsFrom (H3.objs.size + 1) scope.names [] ++ clOf env scope.names []).lookup x = some c := fun x c hc => by
    rw [List.lookup_append, hc]; rfl
  generalize hce : ({ scope := scope, locals := H3.objs.size, globals := env.globals, cells := cellsFrom (H3.objs.size + 1) scope.names [] ++ clOf env scope.names [], qual := env.qual, func := none, code := env.code, frame := env.frame, builtins := env.builtins } : Env) = ce
  have ceL : ce.locals = H3.objs.size := by rw [← hce]
  have noneVals : ∀ {x v}, ¬ At2 cvars (cvars.map fun _ => none) x v := by
    intro x v a
    clear loop
    induction cvars with
    | nil => cases a
    | cons y r ih =>
      rw [List.map_cons] at a
      cases a with
      | tail a => exact ih (by simp only [List.all_cons, Bool.and_eq_true] at hcv; exact hcv.2) (List.nodup_cons.mp hndc).2 a
  have Sc : St K g' { ce with scope := relabel scope env } cvars (cvars.map fun _ => none) caps' [(I, Src.cn src 0), (s₂.heap.objs.size, .list [])] H5 := by
    have hLo : (({ ce with scope := relabel scope env } : Env)).locals = H3.objs.size := ceL
    refine ⟨S.wd.ext gg, (gh.trans x4).trans x5, hkind, ?_, ?_, hndc, ?_, ⟨fun _ => none, ?_, fun x v a => (noneVals a).elim⟩, fun x hx => ?_, fun x hx y hy c hkx hky h1 h2 => ?_, fun p hp => ?_, fun p hp => ?_, ?_⟩
    · rw [← hce]; exact S.gl
    · rw [← hce]; exact S.bu
    · rw [hLo]; exact gno _ hC3
    · rw [hLo, ← hH5]
      exact (hH4 ▸ Heap.Ns.new H3 (.type "dict")).keeps (pushCells_keeps _ _)
    · have := List.all_eq_true.mp hcv x hx
      rcases Bool.or_eq_true_iff.mp this with q | q
      · have q : scope.names.lookup x = some .local := by simpa using q
        rcases relabel_lookup (env := env) q with r | ⟨r, _⟩
        · exact .inl r
        · cases r
      · have q : scope.names.lookup x = some .cell := by simpa using q
        obtain ⟨c, hc⟩ := own x q
        obtain ⟨hi, hge⟩ := ownOk x c hc
        rcases relabel_lookup (env := env) q with r | ⟨r, _⟩
        · refine .inr ⟨r, c, none, ?_, ?_, ?_, hi, fun v a => (noneVals a).elim⟩
          · rw [← hce]; exact ownLk x c hc
          · rw [hLo]; exact Nat.ne_of_gt hge
          · refine gno c ?_
            cases q : H3.get? c with
            | none => rfl
            | some o => exact absurd (Heap.lt_size q) (Nat.not_lt.mpr (Nat.le_of_succ_le hge))
        · cases r
    · have cellOf : ∀ x ∈ cvars, (({ ce with scope := relabel scope env } : Env)).kindOf x = some .cell → scope.names.lookup x = some .cell := fun x hx hk => by
        have := List.all_eq_true.mp hcv x hx
        rcases Bool.or_eq_true_iff.mp this with q | q
        · have q : scope.names.lookup x = some .local := by simpa using q
          rcases relabel_lookup (env := env) q with r | ⟨r, _⟩
          · have : (relabel scope env).names.lookup x = some .cell := hk
            rw [r] at this; cases this
          · cases r
        · simpa using q
      obtain ⟨c1, hc1⟩ := own x (cellOf x hx hkx)
      obtain ⟨c2, hc2⟩ := own y (cellOf y hy hky)
      have e1 : (({ ce with scope := relabel scope env } : Env)).cells.lookup x = some c1 := by rw [← hce]; exact ownLk x c1 hc1
      have e2 : (({ ce with scope := relabel scope env } : Env)).cells.lookup y = some c2 := by rw [← hce]; exact ownLk y c2 hc2
      rw [e1] at h1; rw [e2] at h2
      cases h1; cases h2
      exact name_of_addr ok.apart (mem_of_lookup hc1) (mem_of_lookup hc2)
    · have q : scope.names.lookup p.1 = some .free := by
        have := List.all_eq_true.mp hcn p.1 (List.mem_map_of_mem hp)
        simpa using this
      obtain ⟨c, hc, hi⟩ := hcaps.all p hp
      refine ⟨?_, c, ?_, ?_⟩
      · rcases relabel_lookup (env := env) q with r | ⟨_, r⟩
        · exact .inr r
        · exact .inl r
      · rw [← hce]; exact (freeLk p.1 q).trans hc
      · obtain ⟨o, ho, hd⟩ := hi
        refine ⟨o, gx c o (fun z => ?_) ho, hd⟩
        obtain ⟨o', ho', hc'⟩ := hI
        have eo : o' = o := Option.some.inj (ho'.symm.trans (z ▸ ho))
        subst eo
        cases src with
        | lst l vs => rw [hc'.2] at hd; cases hd
        | tpl l vs => rw [hc'.2] at hd; cases hd
        | rng a n => have hc' : o' = _ := hc'; rw [hc'] at hd; cases hd
        | rngs a c n => have hc' : o' = _ := hc'; rw [hc'] at hd; cases hd
    · simp only [List.mem_cons, List.not_mem_nil, or_false] at hp
      have notC : ∀ a, (∃ o, H3.get? a = some o) → ∀ x ∈ cvars, (({ ce with scope := relabel scope env } : Env)).kindOf x = some .cell → (({ ce with scope := relabel scope env } : Env)).cells.lookup x ≠ some a := fun a ⟨o, ho⟩ x hx hk hl => by
        have hk' : scope.names.lookup x = some .cell := by
          have := List.all_eq_true.mp hcv x hx
          rcases Bool.or_eq_true_iff.mp this with q | q
          · have q : scope.names.lookup x = some .local := by simpa using q
            rcases relabel_lookup (env := env) q with r | ⟨r, _⟩
            · have : (relabel scope env).names.lookup x = some .cell := hk
              rw [r] at this; cases this
            · cases r
          · simpa using q
        obtain ⟨c1, hc1⟩ := own x hk'
        have e1 : (({ ce with scope := relabel scope env } : Env)).cells.lookup x = some c1 := by rw [← hce]; exact ownLk x c1 hc1
        rw [e1] at hl; cases hl
        exact absurd (Heap.lt_size ho) (Nat.not_lt.mpr (Nat.le_of_succ_le (ownOk x _ hc1).2))
      rcases hp with rfl | rfl
      · refine ⟨((hI.ext x3).ext x4).ext x5, by rw [hLo]; exact hIC, gI, notC I ?_⟩
        obtain ⟨o, ho⟩ := hI.some; exact ⟨o, x3 _ _ ho⟩
      · refine ⟨(hD3.ext x4).ext x5, by rw [hLo]; exact hDC, gD, notC _ hD3.some⟩
    · simp only [List.map_cons, List.map_nil, List.nodup_cons, List.mem_cons, List.not_mem_nil, or_false, not_false_eq_true, List.nodup_nil, and_true]
      exact hID
  have base : ∀ s₅ : Shared, s₅.heap = H5 → Same s₂ s₅ → codeAny (model prog w) A (.compLoop (.ListComp elt (⟨target, iter, ifs, 0⟩ :: rest) scope pos) 0 (.ref I) (.ref s₂.heap.objs.size) { ce with scope := relabel scope env }) (RR (.ref s₂.heap.objs.size) ce.locals) s₅ := fun s₅ h5 es => by
    refine (loop _ g' s₂.heap.objs.size H5 rfl gx hD Sc).out h5 fun f s₆ e₆ q => hR _ _ _ _ ?_
    obtain ⟨ys, g'', vals'', S'', eg, hP⟩ := q
    obtain ⟨h₆, tk, rfl⟩ := es.trans e₆
    rw [ceL]
    have xI : Heap.ExtBut I s₂.heap h₆ := fun b o hb e => S''.keep _ _ (eg _ _ (gx b o hb e))
    have hDat : IsAt h₆ s₂.heap.objs.size (.list ys) := S''.at (.head _)
    have Sf : St K g env vars vals caps ((s₂.heap.objs.size, .list ys) :: N) h₆ := S.push' xI hD hDat
    refine hRR I src g vars vals caps N ys _ _ h₆ tk S hD hCs (Ne.symm hDC) ?_ Sf fun h' hs' => ?_
    · obtain ⟨m, hm, _⟩ := S''.ns
      have hm : Heap.Ns h₆ ce.locals m := hm
      rw [ceL] at hm
      exact ⟨m, hm⟩
    · have hNC : ∀ p ∈ ((s₂.heap.objs.size, Cn.list ys) :: N), p.1 ≠ H3.objs.size := fun p hp => by
        rcases List.mem_cons.mp hp with rfl | hp
        · exact hDC
        · intro q
          obtain ⟨o, ho⟩ := (S.news p (.tail _ hp)).1.some
          rw [q, hCs] at ho; cases ho
      have hg''C : ∀ b o, g''.get? b = some o → b ≠ H3.objs.size := fun b o e q => by
        have := S''.hidL
        have hL : g''.get? ce.locals = none := this
        rw [ceL, ← q, e] at hL; cases hL
      have gDn : g''.get? s₂.heap.objs.size = none := (S''.news (s₂.heap.objs.size, .list ys) (.head _)).2.2.1
      exact fin ys g'' _ h' hP (fun b o hb e => eg _ _ (gx b o hb e)) (fun b o e => hs'.extBut b o (hg''C b o e) (S''.keep b o e)) gDn hD (Sf.other S hCs hNC hs')
  subst hce
  refine codeAny_compStart_list (base _ rfl (Same.mk' s₂ _ _)) ?_
  exact (iter_self (prog := prog) (w := w) (A := A) (src := src) (i := 0) (Q := fun v h' => v = .ref I ∧ h' = H5) (Sc.at (.head _)) ⟨rfl, rfl⟩).out rfl fun v s' e q => by
    obtain ⟨rfl, q⟩ := q
    exact base _ q ((Same.mk' s₂ _ _).trans e)

theorem Wp_ListComp {env : Env} {g h : Heap} {vars : List Str} {vals : List (Option Value)} {caps : List (Str × Value)} {N : List (Addr × Cn)} {sc : Scope} {elt target iter : Expr} {ifs : List Expr} {rest : List Comprehension} {scope : Scope} {pos : Pos} {Q : Value → Heap → Prop}
    (S : St K g env vars vals caps N h) (hsc : env.scope = sc)
    (hfree : (scope.names.all fun x => x.2 != .free || (vars.contains x.1 && sc.names.lookup x.1 == some .cell) || (caps.map (·.1)).contains x.1) = true)
    (hnd : (scope.names.map (·.1)).Nodup) (hkind : scope.kind = .function)
    (H : Wp (model prog w) A (eval iter env) (fun x h₁ => Wp (model prog w) A (pyIter x) (fun it h₂ => CompGoal prog w A K env elt (⟨target, iter, ifs, 0⟩ :: rest) scope pos it Q h₂) h₁) h)
    (hs : ∀ x, foldedSetIterable iter env x = pure x := by intro _; rfl) :
    Wp (model prog w) A (eval (.ListComp elt (⟨target, iter, ifs, 0⟩ :: rest) scope pos) env) Q h := fun s E e => by
  have hf := S.free hsc hfree
  rw [eval_ListComp]
  refine wpAny_comprehension_free (use := none) rfl hs (closureFor_eq hf) hkind (fun x hx hl => lookup_mem hnd (by rw [← hl]; exact hx)) (H.out e fun x s₁ e₁ q => q.out rfl fun it s₂ e₂ G => ?_)
  refine comp_block (RR := fun acc C => compPost (model prog w) A E none (fun a s' => Same s s' ∧ Q a s'.heap) acc C) hf G ?_ (fun _ _ _ _ q => q)
  intro I src g vars vals caps N ys D C h₅ tk S hD hC hCD hn Sf fin
  obtain ⟨m, hm⟩ := hn
  exact ⟨m, hm, fun h' hs' => ⟨(e₁.trans e₂).trans (Same.mk' s₂ h' tk), fin h' hs'⟩⟩
end

open PySem PySem.W PySem.Calls PyProof.Rows
set_option Elab.async false

theorem swaps_eq {elt : Expr} {gens : List Comprehension} {scope : Scope} {p pos : Pos} {t : Str} {line : Nat} {env : Env} :
    swapsWith (.ListComp elt gens scope p) (some (.Name t pos)) line env = pure (env.blockKind == .function && env.kindOf t == some .local && pos.line == (Expr.ListComp elt gens scope p).pos.line
      && !(scope.names.any fun (n, k) => n == t && (k == .local || k == .cell))) := rfl
theorem swaps_of {elt : Expr} {gens : List Comprehension} {scope sc : Scope} {p pos : Pos} {t : Str} {line : Nat} {env : Env} {b : Bool} (hsc : env.scope = sc)
    (h : ((if sc.kind.isAnnotationScope then ScopeKind.function else sc.kind) == .function && sc.names.lookup t == some .local && pos.line == p.line && !(scope.names.any fun (n, k) => n == t && (k == .local || k == .cell))) = b) :
    swapsWith (.ListComp elt gens scope p) (some (.Name t pos)) line env = pure b := by
  rw [swaps_eq, ← h]
  unfold Env.blockKind Env.kindOf
  rw [hsc]; rfl

def UseQ (K : Frag) (env : Env) (x : Str) (Qf : Flow → Heap → Prop) (v : Value) (h' : Heap) : Prop :=
  ∃ g vars vals vals' caps N, St K g env vars vals caps N h' ∧ Put2 vars vals x v vals' ∧ ∀ h'', St K g env vars vals' caps N h'' → Qf .next h''

theorem St.weaken {K : Frag} {g g' h h₀ : Heap} {env : Env} {vars : List Str} {vals vals₀ : List (Option Value)} {caps : List (Str × Value)} {N N₀ : List (Addr × Cn)}
    (S : St K g' env vars vals caps N h) (S₀ : St K g env vars vals₀ caps N₀ h₀) (e : Ext g g') : St K g env vars vals caps N h :=
  have no : ∀ a, g'.get? a = none → g.get? a = none := fun a ha => by
    cases q : g.get? a with
    | none => rfl
    | some o => rw [e _ _ q] at ha; cases ha
  { S with
    wd := S₀.wd
    keep := e.trans S.keep
    hidL := no _ S.hidL
    kind := fun x hx => (S.kind x hx).imp id fun ⟨k, c, u, p, q, r, s, t⟩ => ⟨k, c, u, p, q, no _ r, s, t⟩
    caps := S₀.caps
    news := fun p hp => let ⟨x, y, z, t⟩ := S.news p hp; ⟨x, y, no _ z, t⟩ }

section
variable {prog : Program} {w : World} {A : Around} {K : Frag}
theorem Wp_Assign_comp {env : Env} {g h : Heap} {vars : List Str} {vals : List (Option Value)} {caps : List (Str × Value)} {N : List (Addr × Cn)} {sc : Scope} {elt target iter : Expr} {ifs : List Expr} {rest : List Comprehension} {scope : Scope} {p pos px : Pos} {x : Str} {Q : Flow → Heap → Prop}
    (S : St K g env vars vals caps N h) (hsc : env.scope = sc)
    (hfree : (scope.names.all fun x => x.2 != .free || (vars.contains x.1 && sc.names.lookup x.1 == some .cell) || (caps.map (·.1)).contains x.1) = true)
    (hnd : (scope.names.map (·.1)).Nodup) (hkind : scope.kind = .function)
    (hsw : swapsWith (.ListComp elt (⟨target, iter, ifs, 0⟩ :: rest) scope p) (some (.Name x px)) pos.line env = pure true)
    (H : Wp (model prog w) A (eval iter env) (fun y h₁ => Wp (model prog w) A (pyIter y) (fun it h₂ => CompGoal prog w A K env elt (⟨target, iter, ifs, 0⟩ :: rest) scope p it (UseQ K env x Q) h₂) h₁) h)
    (hs : ∀ x, foldedSetIterable iter env x = pure x := by intro _; rfl) :
    Wp (model prog w) A (exec (.Assign [.Name x px] (.ListComp elt (⟨target, iter, ifs, 0⟩ :: rest) scope p) pos) env) Q h := fun s E e => by
  have hf := S.free hsc hfree
  rw [exec_Assign_Name_used _ _ _ _ hsw]
  refine wpAny_bind (wpAny_standAt ?_)
  show wpAny _ _ ((comprehension (.ListComp elt (⟨target, iter, ifs, 0⟩ :: rest) scope p) scope env (firstIterPos (⟨target, iter, ifs, 0⟩ :: rest) p) (newList []) (firstAsync (⟨target, iter, ifs, 0⟩ :: rest)) (firstIter (⟨target, iter, ifs, 0⟩ :: rest) env) (some (assign (.Name x px) env)) >>= fun _ => pure ()) >>= fun _ => pure Flow.next) _ _ s
  refine wpAny_bind (wpAny_bind ?_)
  refine wpAny_comprehension_free (Q := fun _ s' => wpAny (model prog w) A (pure ()) (fun _ s'' => wpAny (model prog w) A (pure Flow.next) (fun a s' => Same s s' ∧ Q a s'.heap) E s'') E s') (use := some (assign (.Name x px) env)) rfl hs (closureFor_eq hf) hkind (fun x hx hl => lookup_mem hnd (by rw [← hl]; exact hx)) (H.out e fun y s₁ e₁ q => q.out rfl fun it s₂ e₂ G => ?_)
  refine comp_block (RR := fun acc C => compPost (model prog w) A E (some (assign (.Name x px) env)) (fun _ s' => wpAny (model prog w) A (pure ()) (fun _ s'' => wpAny (model prog w) A (pure Flow.next) (fun a s' => Same s s' ∧ Q a s'.heap) E s'') E s') acc C) hf G ?_ (fun _ _ _ _ q => q)
  intro I src g vars vals caps N ys D C h₅ tk S hD hC hCD hn Sf fin
  obtain ⟨m, hm⟩ := hn
  obtain ⟨g₃, vars₃, vals₃, vals', caps₃, N₃, S₃, hput, cont⟩ := fin (h₅.hide C) (Heap.SameBut.update ..)
  have hCn : (h₅.hide C).get? C = none := Heap.hide_self h₅ C
  have S₅ : St K g₃ env vars₃ vals₃ caps₃ N₃ h₅ := S₃.grow fun b o e => Heap.of_hide e
  -- C is frozen while the name is stored
  obtain ⟨g₄, e₄, S₄, fz⟩ := S₅.rebase
  have hCo : C ∉ St.owned env vars₃ N₃ := fun q => by obtain ⟨o, ho⟩ := S₃.owned_some C q; rw [hCn] at ho; cases ho
  obtain ⟨oC, esC, epC, hoC, hdC, hsC, hfC⟩ := hm
  have hC4 := fz C oC hoC hCo
  show wpAny _ _ (assign (.Name x px) env (.ref D)) _ _ _
  refine wpAny_assign_Name ((Wp_store (Q := fun _ h' => St K g₄ env vars₃ vals' caps₃ N₃ h') S₄ hput (fun h' S' => S')).out rfl fun _ s₆ e₆ S₆ => ?_)
  refine ⟨m, ⟨oC, esC, epC, S₆.keep _ _ hC4, hdC, hsC, hfC⟩, fun h' hs' => wpAny_pure (wpAny_pure ⟨?_, cont h' ?_⟩)⟩
  · obtain ⟨h6, tk6, rfl⟩ := e₆
    exact ((e₁.trans e₂).trans (Same.mk' s₂ h' tk6))
  · have S₇ : St K g₃ env vars₃ vals' caps₃ N₃ s₆.heap := S₆.weaken S₅ e₄
    refine S₇.other S₃ hCn (fun p hp q => ?_) hs'
    obtain ⟨o, ho⟩ := (S₃.news p hp).1.some
    rw [q, hCn] at ho; cases ho
end

open PySem PySem.W PySem.Calls PyProof.Rows
set_option Elab.async false

theorem range_filter_succ (p : Nat → Bool) (n : Nat) : (List.range (n + 1)).filter p = (List.range n).filter p ++ (if p n then [n] else []) := by
  rw [List.range_succ, List.filter_append]
  cases h : p n <;> simp [h]
theorem Paired.append' {α β : Type} {F : α → β → Prop} : ∀ {l₁ : List α} {l₂ : List β} {m₁ : List α} {m₂ : List β}, Paired F l₁ l₂ → Paired F m₁ m₂ → Paired F (l₁ ++ m₁) (l₂ ++ m₂)
  | _, _, _, _, .nil, h => h
  | _, _, _, _, .cons a t, h => .cons a (Paired.append' t h)
theorem Paired.ints {f : Nat → Int} : ∀ {l : List Nat} {ys : List Value}, Paired (fun i y => ∃ t, y = Value.int (f i) t) l ys → IntsAre ys (l.map f)
  | _, _, .nil => .nil
  | _, _, .cons ⟨t, e⟩ r => by subst e; exact .cons _ t (Paired.ints r)

section
variable {prog : Program} {w : World} {A : Around} {K : Frag} {g h : Heap} {env : Env} {vars : List Str} {vals : List (Option Value)} {caps : List (Str × Value)} {N : List (Addr × Cn)}

theorem Wp_append {D : Addr} {ys : List Value} {x : Value} {N' : List (Addr × Cn)} {Q : Value → Heap → Prop} (S : St K g env vars vals caps N h) (hD : (D, .list ys) ∈ N) (p : LPut N D (.list (ys ++ [x])) N') (hsz : ys.length ≤ sizeLine)
    (H : ∀ h', St K g env vars vals caps N' h' → Q .none h') : Wp (model prog w) A (call (.builtin "list.append") [.ref D, x]) Q h := fun s E e => by
  subst e
  refine wpAny_list_append_plain (hsz := by simpa using hsz) (S.at hD).plain fun h' hp hs => ⟨Same.mk' s _ s.toks, H h' (S.upd p hs.extBut (IsAt.ofPlain ?_))⟩
  simpa using hp

/-- a comprehension of one clause over a source; its turns make nothing that stays -/
theorem CompGoal.sel {I : Addr} {src : Src} {elt iter : Expr} {x : Str} {px : Pos} {ifs : List Expr} {scope : Scope} {pos : Pos} {Q : Value → Heap → Prop}
    (S : St K g env vars vals caps ((I, src.cn 0) :: N) h) (hA : A.handled = none) (hb : src.base h) (hlen : src.len ≤ sizeLine) (caps' : List (Str × Value)) (p : Nat → Bool) (R : Nat → Value → Prop)
    (hok : compOk scope [x] (caps'.map (·.1)) = true) (hcaps : CapsOk env h caps')
    (test : ∀ (cenv : Env) g' D ys i v h', cenv.scope = relabel scope env → Ext g g' → (∀ q ∈ N, IsAt g' q.1 q.2) → i < src.len → src.item i v → St K g' cenv [x] [some v] caps' [(I, src.cn (i + 1)), (D, .list ys)] h' →
      Wp (model prog w) A (tests ifs cenv) (fun ok h₂ => ok = p i ∧ St K g' cenv [x] [some v] caps' [(I, src.cn (i + 1)), (D, .list ys)] h₂) h')
    (elem : ∀ (cenv : Env) g' D ys i v h', cenv.scope = relabel scope env → Ext g g' → (∀ q ∈ N, IsAt g' q.1 q.2) → i < src.len → src.item i v → p i = true → St K g' cenv [x] [some v] caps' [(I, src.cn (i + 1)), (D, .list ys)] h' →
      Wp (model prog w) A (eval elt cenv) (fun y h₂ => R i y ∧ St K g' cenv [x] [some v] caps' [(I, src.cn (i + 1)), (D, .list ys)] h₂) h')
    (H : ∀ ys D h₅, Paired R ((List.range src.len).filter p) ys → St K g env vars vals caps ((D, .list ys) :: N) h₅ → Q (.ref D) h₅) :
    CompGoal prog w A K env elt [⟨.Name x px, iter, ifs, 0⟩] scope pos (.ref I) Q h := by
  refine ⟨I, src, g, vars, vals, caps, N, rfl, S, [x], caps', fun ys _ => Paired R ((List.range src.len).filter p) ys, hok, hcaps, fun cenv g' D h' hsc hx hD Sc => ?_, fun ys g'' D h₅ hP _ _ _ _ Sf => H ys D h₅ hP Sf⟩
  have gI := (S.news (I, src.cn 0) (.head _)).2.2.1
  have hgg : Ext g g' := fun b o e => hx b o (fun q => by rw [q, gI] at e; cases e) (S.keep b o e)
  have hNN : ∀ q ∈ N, IsAt g' q.1 q.2 := fun q hq => by
    have nd := List.nodup_cons.mp S.nodN
    exact (S.news q (.tail _ hq)).1.but hx fun z => nd.1 (by have := List.mem_map_of_mem (f := (·.1)) hq; rwa [z] at this)
  refine Cp_compLoop (turn1 ..) src (fun i g₁ vals₁ N₁ => g₁ = g' ∧ ∃ ys o, vals₁ = [o] ∧ N₁ = [(D, .list ys)] ∧ Paired R ((List.range i).filter p) ys) hA Sc ⟨rfl, [], none, rfl, rfl, .nil⟩ ?_ ?_ ?_
  · rintro i g₁ vals₁ N₁ h₁ ⟨rfl, _⟩ S₁
    have hb' : src.base g₁ := by
      cases src with
      | lst l vs =>
        obtain ⟨o, ho, r⟩ := hb
        refine ⟨o, hx _ _ (fun q => ?_) ho, r⟩
        obtain ⟨o', ho', hc'⟩ := (S.at (a := I) (.head _))
        rw [q, ho'] at ho; cases ho
        have := hc'.1
        rw [r.1] at this; exact absurd this (by simp)
      | tpl l vs =>
        obtain ⟨o, ho, r⟩ := hb
        refine ⟨o, hx _ _ (fun q => ?_) ho, r⟩
        obtain ⟨o', ho', hc'⟩ := (S.at (a := I) (.head _))
        rw [q, ho'] at ho; cases ho
        have := hc'.1
        rw [r.1] at this; exact absurd this (by simp)
      | rng a n => trivial
      | rngs a c n => trivial
    cases src with
    | lst l vs => exact isListExt hb' S₁.keep
    | tpl l vs => obtain ⟨o, ho, r⟩ := hb'; exact ⟨o, S₁.keep _ _ ho, r⟩
    | rng a n => trivial
    | rngs a c n => trivial
  · rintro i v g₁ vals₁ N₁ h₁ hi hv ⟨rfl, ys, o, rfl, rfl, hP⟩ S₁
    refine Wp_letOwned_Name (Wp_assign_Name (Wp_store S₁ .head fun h₂ S₂ => (test cenv g₁ D ys i v h₂ hsc hgg hNN hi hv S₂).mono fun ok h₃ ⟨hok', S₃⟩ => ?_))
    subst hok'
    cases hpi : p i with
    | false =>
      refine Wp_pure ⟨rfl, g₁, _, _, ⟨rfl, ys, _, rfl, rfl, ?_⟩, S₃⟩
      rw [range_filter_succ, hpi]; simpa using hP
    | true =>
      have hys : ys.length ≤ sizeLine := by
        have e1 := hP.length
        have e2 := List.length_filter_le p (List.range i)
        rw [List.length_range] at e2
        omega
      refine Wp_bind (Wp_emit ((elem cenv g₁ D ys i v h₃ hsc hgg hNN hi hv hpi S₃).mono fun y h₄ ⟨hR, S₄⟩ => ?_))
      refine Wp_append S₄ (.tail _ (.head _)) (.tail .head) hys fun h₅ S₅ => Wp_pure ⟨rfl, g₁, _, _, ⟨rfl, ys ++ [y], _, rfl, rfl, ?_⟩, S₅⟩
      rw [range_filter_succ, hpi]
      exact Paired.append' hP (.cons hR .nil)
  · rintro g₁ vals₁ N₁ h₁ ⟨rfl, ys, o, rfl, rfl, hP⟩ S₁
    exact ⟨ys, g₁, _, S₁, Ext.refl _, hP⟩
end

open PySem PySem.W PySem.Calls PyProof.Rows
set_option Elab.async false

theorem fr_any {h : Heap} {L : Addr} {m : Str → Option Value} (n : h.Ns L m) : Fr {} L h m := ⟨n, fun b o e => by simp [Heap.get?] at e, Nat.zero_le _⟩
theorem extPush (h : Heap) (o : Obj) : Ext h (h.push o) := fun _ _ e => Heap.get?_push_of_some _ e

section
variable {prog : Program} {w : World} {A : Around} {h : Heap} {env : Env} {K : Frag} {Q : Value → Heap → Prop}

theorem Wp_half {n : Nat} {t u : Tok} (H : ∀ t, Q (.int (n / 2 : Nat) t) h) : Wp (model prog w) A (binaryOp .FloorDiv (.int ((n : Nat) : Int) t) (.int 2 u)) Q h :=
  Wp_fdiv (by decide) (by decide) (fun t => by rw [show ((n : Int)).fdiv 2 = ((n / 2 : Nat) : Int) from by rw [Int.fdiv_eq_ediv_of_nonneg _ (by omega)]; omega]; exact H t)

theorem Wp_abs {a : Int} {t : Tok} (H : ∀ t, Q (.int (a.natAbs : Int) t) h) : Wp (model prog w) A (call (.builtin "abs") [.int a t]) Q h := fun s E e => by
  subst e
  exact call_abs_int fun u tk => ⟨Same.mk' s s.heap tk, by have := H u; rw [show ((a.natAbs : Nat) : Int) = if a < 0 then -a else a from by split <;> omega] at this; exact this⟩

/- ranges -/
def rngsCn (a b c : Int) (t u v : Tok) : Cn := .obj { cls := .type "range", dict := none, data := .fields #[.int a t, .int b u, .int c v], slots := #[] }
theorem Wp_range3 {a b c : Int} {t u v : Tok} (hc : 0 < c) (hc' : c < 1000) (H : ∀ r h', Fresh h r (rngsCn a b c t u v) h' → Q (.ref r) h') : Wp (model prog w) A (call (.type "range") [.int a t, .int b u, .int c v]) Q h := fun s E e => by
  subst e
  exact call_range_3 (by omega) ⟨Same.mk' s _ s.toks, H _ _ (Fresh.push _ rfl rfl)⟩ (Or.inl (PyProof.noPylong_small (by omega)))
theorem Wp_iter_range3 {l : Addr} {a b c : Int} {t u v : Tok} (hl : IsAt h l (rngsCn a b c t u v)) (hs : Builtin.Range.small a b c = true) {n : Nat} (hn : Builtin.Range.rangeSize a b c = n)
    (H : ∀ I h', Fresh h I ((Src.rngs a c n).cn 0) h' → Q (.ref I) h') : Wp (model prog w) A (pyIter (.ref l)) Q h := fun s _ e => by
  subst e
  obtain ⟨o, ho, rfl⟩ := hl
  refine wpAny_pyIter_range ho hs ⟨Same.mk' s _ s.toks, H _ _ (Fresh.push _ rfl ?_)⟩
  simp only [Src.cn, Cn.ok, hn]
  simp
def rngCn (a b : Int) (t u v : Tok) : Cn := .obj (rangeObj a b t u v)
theorem Wp_range1 {n : Int} {t : Tok} (H : ∀ a h' t u v, Fresh h a (rngCn 0 n t u v) h' → Q (.ref a) h') : Wp (model prog w) A (call (.type "range") [.int n t]) Q h := fun s E e => by
  subst e
  exact call_range_1 ⟨Same.mk' s _ _, H _ _ _ _ _ (Fresh.push _ rfl rfl)⟩
theorem Wp_range2 {a b : Int} {t u : Tok} (H : ∀ r h' t u v, Fresh h r (rngCn a b t u v) h' → Q (.ref r) h') : Wp (model prog w) A (call (.type "range") [.int a t, .int b u]) Q h := fun s E e => by
  subst e
  exact call_range_2 ⟨Same.mk' s _ _, H _ _ _ _ _ (Fresh.push _ rfl rfl)⟩
theorem small_of {a b : Int} (ha : -(2 ^ 61) ≤ a) (hb : b ≤ 2 ^ 61) (ha' : a ≤ 2 ^ 61) (hb' : -(2 ^ 61) ≤ b) : Builtin.Range.small a b 1 = true := small_one (by omega) (by omega) (by omega) (by omega)

/- lists -/
theorem Wp_list_list {l : Addr} {xs : List Value} (hl : h.IsList l xs.toArray) (hsz : xs.length ≤ sizeLine) (H : ∀ a h', Fresh h a (.list xs) h' → Q (.ref a) h') : Wp (model prog w) A (call (.type "list") [.ref l]) Q h := fun s E e => by
  subst e
  obtain ⟨o, ho, hc, n, hd⟩ := hl
  exact call_list_seq (hsz := by simpa using hsz) l (.inl rfl) ho hc hd fun h' c' hk hD => ⟨Same.mk' s h' s.toks, H _ _ ⟨hk, get?_size_none _, _, hD, c', rfl⟩⟩
theorem Wp_list_range {l : Addr} {a b : Int} {t u v : Tok} (hA : A.handled = none) (hl : IsAt h l (rngCn a b t u v)) (hs : Builtin.Range.small a b 1 = true) (hlen : (b - a).toNat ≤ 2 ^ 24)
    (H : ∀ D h' xs, Fresh h D (.list xs) h' → IntsAre xs ((List.range (b - a).toNat).map fun (i : Nat) => a + (i : Int)) → Q (.ref D) h') : Wp (model prog w) A (call (.type "list") [.ref l]) Q h := fun s E e => by
  subst e
  obtain ⟨o, ho, rfl⟩ := hl
  refine call_list_range hA ho hs (rangeSize_one a b) hlen fun h' tk acc' c' hk hD hI => ⟨Same.mk' s h' tk, H _ h' acc'.toList ⟨hk, get?_size_none _, _, hD, c', by simp⟩ ?_⟩
  obtain ⟨h1, h2⟩ := hI
  have key : ∀ (n : Nat) (ys : List Value), ys.length = n → (∀ (j : Nat) v, ys[j]? = some v → ∃ t, v = Value.int (a + (j : Int) * 1) t) → IntsAre ys ((List.range n).map fun (i : Nat) => a + (i : Int)) := by
    intro n
    induction n with
    | zero => intro ys hy _; rw [List.length_eq_zero_iff.mp hy]; exact .nil
    | succ n ih =>
      intro ys hy hv
      have hne : ys ≠ [] := fun q => by rw [q] at hy; cases hy
      have e1 : ys = ys.dropLast ++ [ys.getLast hne] := (List.dropLast_concat_getLast hne).symm
      rw [e1, List.range_succ, List.map_append]
      refine IntsAre.append (ih _ (by rw [List.length_dropLast, hy]; rfl) fun j v hj => hv j v ?_) ?_
      · rw [e1, List.getElem?_append_left (List.getElem?_eq_some_iff.mp hj).1]; exact hj
      · obtain ⟨t, ht⟩ := hv n (ys.getLast hne) (by rw [List.getLast_eq_getElem, List.getElem?_eq_getElem (by omega)]; congr 1; simp [hy])
        rw [ht]
        have : a + (n : Int) * 1 = a + n := by omega
        rw [this]
        exact .cons _ t .nil
  exact key _ acc'.toList (by simpa using h1) (fun j v hj => h2 j v (by simpa using hj))
theorem Wp_tuple_list {l : Addr} {xs : List Value} (hl : h.IsList l xs.toArray) (hsz : xs.length ≤ sizeLine) (H : ∀ a h', Fresh h a (.tup xs) h' → Q (.ref a) h') : Wp (model prog w) A (call (.type "tuple") [.ref l]) Q h := fun s E e => by
  subst e
  refine call_tuple_list hl (hsz := by simpa using hsz) fun h' hk => ⟨Same.mk' s _ s.toks, H _ _ ⟨fun b o e => Heap.get?_push_of_some _ (hk b o e), ?_, _, Heap.get?_push_size _ rfl, 0, rfl⟩⟩
  cases q : s.heap.get? h'.objs.size with
  | none => rfl
  | some o => exact absurd (Heap.lt_size (hk _ _ q)) (Nat.lt_irrefl _)

theorem Wp_addLists {l b : Addr} {vs ws : List Value} (hl : h.IsList l vs.toArray) (hb : h.IsList b ws.toArray) (hsz : vs.length + ws.length ≤ sizeLine) (H : ∀ a h', Fresh h a (.list (vs ++ ws)) h' → Q (.ref a) h') :
    Wp (model prog w) A (binaryOp .Add (.ref l) (.ref b)) Q h := fun s E e => by
  subst e
  obtain ⟨⟨cls, dd, data, sl⟩, ho, hc, n, hd⟩ := id hl
  obtain ⟨⟨cls2, dd2, data2, sl2⟩, ho2, hc2, n2, hd2⟩ := id hb
  simp only at hc hd hc2 hd2
  subst hc hd hc2 hd2
  have e : vs.toArray ++ ws.toArray = (vs ++ ws).toArray := by simp
  refine concat_meets ⟨_, ho, rfl⟩ ⟨_, ho2, rfl⟩ noFill_list_add seq_list_add PySem.F.slot_list_add PySem.F.entry_list_add (PySem.F.args_list_add_2 _ _) (list_addW l b vs.toArray ws.toArray n n2 dd dd2 sl sl2 (by simpa using hsz)) ⟨ho, ho2, ?_⟩
  rw [e]
  exact ⟨Same.mk' s _ _, H _ _ (Fresh.push _ rfl ⟨_, rfl⟩)⟩

theorem Wp_mulList {l : Addr} {v : Value} {x : Int} {u : Tok} (hl : IsAt h l (.list [v])) (h0 : 0 ≤ x) (hx : x ≤ 2 ^ 20) (H : ∀ a h', Fresh h a (.list (List.replicate x.toNat v)) h' → Q (.ref a) h') :
    Wp (model prog w) A (binaryOp .Mult (.ref l) (.int x u)) Q h := fun s E e => by
  subst e
  obtain ⟨o, ho, k, rfl⟩ := hl
  have key : ∀ n : Nat, List.foldl (fun x1 x2 => x1 ++ x2) (#[] : Array Value) (List.replicate n #[v]) = (List.replicate n v).toArray := by
    intro n
    have gen : ∀ (n : Nat) (acc : Array Value), List.foldl (fun x1 x2 => x1 ++ x2) acc (List.replicate n #[v]) = acc ++ (List.replicate n v).toArray := by
      intro n
      induction n with
      | zero => intro acc; simp
      | succ n ih => intro acc; rw [List.replicate_succ, List.foldl_cons, ih, List.replicate_succ]; apply Array.toList_inj.mp; simp
    rw [gen]; simp
  refine wpAny_binaryOp_repeat_ref (T := "list") (U := "int") (by decide) ⟨_, ho, rfl⟩ (fun s' => typeIs_int s' x u) noFill_list_mul F.fills_int_mul F.slot_int_rmul repeat_list F.slot_int_index.lookup
    (call_meets F.slot_int_rmul (typeIs_int s x u) F.entry_int_rmul (F.args_int_rmul_2 _ _) (int___rmul___int_list x u l [v].toArray k)
      ⟨ho, rfl, ⟨_, ho, rfl⟩, call_meets F.slot_list_mul ⟨_, ho, rfl⟩ F.entry_list_mul (F.args_list_mul_2 _ _)
        (AutoListH.list___mul___list_int_3 l [v].toArray k x u (by simp [Builtin.List.listFitsIndex]; omega) (by simp; omega) (by simp [Builtin.List.listTooLong, sizeLine]; omega))
        ⟨ho, Same.mk' s _ _, ?_⟩⟩)
  refine H _ _ ?_
  have e : List.foldl (fun x1 x2 => x1 ++ x2) #[] (List.replicate (if ([v].toArray).isEmpty = true then 0 else x.toNat) [v].toArray) = (List.replicate x.toNat v).toArray := by
    rw [if_neg (by simp)]; exact key _
  rw [e]
  exact Fresh.push _ rfl ⟨0, rfl⟩
end

open PySem PySem.W PySem.Calls PyProof.Rows
set_option Elab.async false

section
variable {prog : Program} {w : World} {A : Around} {h : Heap} {env : Env} {K : Frag} {Q : Value → Heap → Prop}

/- slices -/
theorem Wp_part_none {Q : Value → Heap → Prop} (H : Q .none h) : Wp (model prog w) A (evalPart none env) Q h := Wp_pure H
theorem Wp_part_some {e : Expr} (H : Wp (model prog w) A (eval e env) Q h) : Wp (model prog w) A (evalPart (some e) env) Q h := H
theorem Wp_Slice {lower upper : Option Expr} {p : Pos}
    (H : Wp (model prog w) A (evalPart lower env) (fun l h₁ => Wp (model prog w) A (evalPart upper env) (fun u h₂ => ∀ a h', Fresh h₂ a (.obj { cls := .type "slice", data := .fields #[l, u, .none] }) h' → Q (.ref a) h') h₁) h) :
    Wp (model prog w) A (eval (.Slice lower upper none p) env) Q h := fun s E e => by
  refine wpAny_Slice (H.out e fun l s₁ e₁ q => q.out rfl fun u s₂ e₂ q => ?_)
  exact wpAny_pure ⟨(e₁.trans e₂).trans (Same.mk' s₂ _ s₂.toks), q _ _ (Fresh.push _ rfl rfl)⟩
theorem Wp_item_slice {value : Expr} {lower upper : Option Expr} {p : Pos} {l sl : Addr} {xs : List Value} {vl vu : Value} {lo hi : Option Int} (hs : IsAt h sl (.obj { cls := .type "slice", data := .fields #[vl, vu, .none] }))
    (hl : h.IsList l xs.toArray) (pl : IsPart vl lo) (pu : IsPart vu hi) (hsz : xs.length ≤ sizeLine) (H : ∀ a h', Fresh h a (.list (slicePick xs.toArray lo hi none).toList) h' → Q (.ref a) h') :
    Wp (model prog w) A (subscriptTail value (.Slice lower upper none p) (.ref l) (.ref sl)) Q h := fun s E e => by
  subst e
  obtain ⟨o, ho, rfl⟩ := hs
  refine tail_any (ops := [.ref sl, .ref l]) hl.typeIs slot_list_getitem.lookup (wpAny_getItem_list_slice hl ⟨_, ho, rfl, rfl⟩ pl pu .none (by simp) ?_ (by simpa using hsz)) rfl
  refine ⟨Same.mk' s _ s.toks, H _ _ (Fresh.push _ rfl ⟨0, by simp⟩)⟩
theorem pick_run (xs : List Value) (a b : Nat) (hb : b ≤ xs.length) (hab : a ≤ b) : (slicePick xs.toArray (some (a : Int)) (some (b : Int)) none).toList = (xs.drop a).take (b - a) := by
  rw [slicePick_run _ _ _ (by simpa using hb) hab]
theorem pick_from (xs : List Value) (a : Nat) : (slicePick xs.toArray (some (a : Int)) none none).toList = xs.drop a := by rw [slicePick_from']
theorem pick_upto (xs : List Value) (b : Nat) : (slicePick xs.toArray none (some (b : Int)) none).toList = xs.take b := by rw [slicePick_upto']

/- sum, max, sorted -/
theorem Wp_sum {l : Addr} {xs : List Value} {ns : List Int} (hA : A.handled = none) (hl : h.IsList l xs.toArray) (hi : IntsAre xs ns) (H : ∀ t h', Ext h h' → Q (.int ns.sum t) h') :
    Wp (model prog w) A (call (.builtin "sum") [.ref l]) Q h := fun s E e => by
  subst e
  obtain ⟨zs, hz⟩ := hi.allInts.items
  have e1 : numsOf xs.toArray.toList = ns := by rw [show xs.toArray.toList = xs from rfl, hi.numsOf]
  rw [hz] at hl
  refine sum_intListG hA hl fun h' tk t' hk => ⟨Same.mk' s h' tk, ?_⟩
  have := H t' h' hk
  rw [preSum_eq, List.take_of_length_le (by simp)]
  rw [← e1, hz, nums_intItems] at this
  exact this

theorem argBest_le (bt : Nat → Nat → Bool) : ∀ k, argBest bt k ≤ k
  | 0 => Nat.le_refl _
  | k + 1 => by
    unfold argBest
    split
    · exact Nat.le_refl _
    · exact Nat.le_succ_of_le (argBest_le bt k)
theorem argBest_max (f : Nat → Int) : ∀ k j, j ≤ k → f j ≤ f (argBest (fun i j => decide (f i > f j)) k)
  | 0, j, hj => by have : j = 0 := by omega
                   subst this; exact Int.le_refl _
  | k + 1, j, hj => by
    have ih := argBest_max f k
    unfold argBest
    by_cases hg : f (k + 1) > f (argBest (fun i j => decide (f i > f j)) k)
    · simp only [hg, decide_true, if_true]
      by_cases e : j = k + 1
      · subst e; exact Int.le_refl _
      · exact Int.le_of_lt (Int.lt_of_le_of_lt (ih j (by omega)) hg)
    · simp only [hg, decide_false, Bool.false_eq_true, if_false]
      by_cases e : j = k + 1
      · subst e; omega
      · exact ih j (by omega)
theorem Wp_max {l : Addr} {xs : List Value} {ns : List Int} (hA : A.handled = none) (hl : h.IsList l xs.toArray) (hi : IntsAre xs ns) (hne : ns ≠ []) (H : ∀ m t h', Ext h h' → m ∈ ns → (∀ n ∈ ns, n ≤ m) → Q (.int m t) h') :
    Wp (model prog w) A (call (.builtin "max") [.ref l]) Q h := fun s E e => by
  subst e
  obtain ⟨zs, hz⟩ := hi.allInts.items
  have e1 : ns = numsOf (intItems zs).toList := by
    rw [← hz, show xs.toArray.toList = xs from rfl, hi.numsOf]
  have e1 : ns = zs.toList.map (·.1) := by rw [e1]; exact nums_intItems zs
  have hsz : 0 < zs.size := by
    cases q : zs.toList with
    | nil => rw [q] at e1; exact absurd e1 hne
    | cons a r => rw [← Array.length_toList, q]; exact Nat.succ_pos _
  rw [hz] at hl
  refine max_intList hA hl hsz fun v h' tk hv hk => ⟨Same.mk' s h' tk, ?_⟩
  have hk' := argBest_le (fun i j => decide (numAt zs i > numAt zs j)) (zs.size - 1)
  generalize hb : argBest (fun i j => decide (numAt zs i > numAt zs j)) (zs.size - 1) = b at hv hk'
  have hlt : b < zs.size := by omega
  have hv' : v = .int (zs[b]).1 (zs[b]).2 := by simp [intItems, hlt] at hv; exact hv.symm
  subst hv'
  refine H _ _ h' hk ?_ fun n hn => ?_
  · rw [e1]; exact List.mem_map.mpr ⟨zs[b], by simp, rfl⟩
  · rw [e1] at hn
    obtain ⟨p, hp, rfl⟩ := List.mem_map.mp hn
    obtain ⟨j, hj, rfl⟩ := List.getElem_of_mem hp
    have hj' : j < zs.size := by simpa using hj
    have := argBest_max (numAt zs) (zs.size - 1) j (by omega)
    rw [hb] at this
    simpa [numAt, hj', hlt] using this

theorem sortedAll_ext (h : Heap) (vs : List Value) (out : Array Value) : Ext h (sortedAll h vs out) := fun b o e => by
  have hlt := Heap.lt_size e
  have s1 : ((h.push (seqObj "list" #[] 0)).update h.objs.size (Obj.mapSeq (· ++ vs.toArray))).objs.size = h.objs.size + 1 := by rw [Heap.size_update, Heap.size_push]
  unfold sortedAll sortedHeap
  rw [Heap.get?_update_ne _ _ _ _ (Nat.ne_of_lt (Nat.lt_succ_of_lt hlt))]
  refine Heap.get?_push_of_some _ (Heap.get?_push_of_some _ ?_)
  rw [Heap.get?_update_ne _ _ _ _ (Nat.ne_of_lt (Nat.lt_succ_of_lt hlt))]
  refine Heap.get?_push_of_some _ ?_
  rw [Heap.get?_update_ne _ _ _ _ (Nat.ne_of_lt hlt)]
  exact Heap.get?_push_of_some _ e
theorem sortedAll_at (h : Heap) (vs : List Value) (out : Array Value) : IsAt (sortedAll h vs out) (h.objs.size + 1) (.list out.toList) := by
  have s1 : ((h.push (seqObj "list" #[] 0)).update h.objs.size (Obj.mapSeq (· ++ vs.toArray))).objs.size = h.objs.size + 1 := by rw [Heap.size_update, Heap.size_push]
  unfold sortedAll sortedHeap
  generalize hH : (h.push (seqObj "list" #[] 0)).update h.objs.size (Obj.mapSeq (· ++ vs.toArray)) = H at s1
  have g1 : (H.push (seqObj "list" vs.toArray 0)).get? (h.objs.size + 1) = some (seqObj "list" vs.toArray 0) := by rw [← s1]; exact Heap.get?_push_size _ rfl
  have g2 := Heap.get?_update_self (Obj.mapSeq fun _ => (#[] : Array Value)) g1 rfl
  have g3 := Heap.get?_push_of_some (seqObj "list" #[] 0) (Heap.get?_push_of_some (seqObj "tuple" vs.toArray 0) g2)
  have g4 := Heap.get?_update_self (Obj.mapSeq fun _ => out) g3 rfl
  exact ⟨_, g4, _, by simp [Obj.mapSeq]; rfl⟩
theorem Wp_sorted {l : Addr} {xs : List Value} {ns : List Int} (hl : h.IsList l xs.toArray) (hi : IntsAre xs ns) (h64 : xs.length < 64)
    (H : ∀ a h' ys ms, Fresh h a (.list ys) h' → IntsAre ys ms → ms.Perm ns → ms.Pairwise (· ≤ ·) → Q (.ref a) h') : Wp (model prog w) A (call (.builtin "sorted") [.ref l]) Q h := fun s E e => by
  subst e
  refine sorted_ints hl hi h64 fun out ms h1 h2 h3 => ⟨Same.mk' s _ s.toks, H _ _ out.toList ms ⟨sortedAll_ext _ _ _, ?_, sortedAll_at _ _ _⟩ h1 h2 h3⟩
  cases q : s.heap.get? (s.heap.objs.size + 1) with
  | none => rfl
  | some o => exact absurd (Heap.lt_size q) (Nat.not_lt.mpr (Nat.le_succ _))

/- comparisons of lists -/
theorem Wp_eq_ints {a b : Addr} {xs ys : List Value} {ns ms : List Int} {n : Nat} (hA : Ok A n) (ha : h.IsList a xs.toArray) (hb : h.IsList b ys.toArray) (hi : IntsAre xs ns) (hj : IntsAre ys ms) (H : Q (.bool (decide (ns = ms))) h) :
    Wp (model prog w) A (compareOp .Eq (.ref a) (.ref b)) Q h := fun s E e => by subst e; exact ke_eq_ints ha hb hi hj hA.units ⟨Same.rfl' s, H⟩
theorem Wp_ne_ints {a b : Addr} {xs ys : List Value} {ns ms : List Int} {n : Nat} (hA : Ok A n) (ha : h.IsList a xs.toArray) (hb : h.IsList b ys.toArray) (hi : IntsAre xs ns) (hj : IntsAre ys ms) (H : Q (.bool (!decide (ns = ms))) h) :
    Wp (model prog w) A (compareOp .NotEq (.ref a) (.ref b)) Q h := fun s E e => by subst e; exact ke_ne_ints ha hb hi hj hA.units ⟨Same.rfl' s, H⟩

theorem reads_ints : ∀ {xs : List Value} {ns : List Int}, IntsAre xs ns → ReadsAll h xs (ns.map PyData.int) []
  | _, _, .nil => .nil
  | _, _, .cons _ t r => .cons (as := []) (bs := []) (.int _ t) (reads_ints r)
theorem reads_list {a : Addr} {xs : List Value} {ns : List Int} (hl : h.IsList a xs.toArray) (hi : IntsAre xs ns) : Reads h (.ref a) (.list (ns.map PyData.int)) [a] := by
  obtain ⟨o, ho, hc, n, hd⟩ := hl
  exact .list ho hc hd (reads_ints hi)
theorem any_int (ns : List Int) (i : Int) : ((ns.map PyData.int).any fun y => PyData.eqv y (.int i)) = decide (i ∈ ns) := by
  induction ns with
  | nil => simp
  | cons n r ih =>
    rw [List.map_cons, List.any_cons, ih]
    have : PyData.eqv (.int n) (.int i) = decide (n = i) := by simp [PyData.eqv]; rfl
    rw [this]
    by_cases e : n = i
    · subst e; simp
    · have : i ≠ n := fun q => e q.symm
      simp [e, this]
theorem Wp_notIn_ints {a : Addr} {xs : List Value} {ns : List Int} {i : Int} {t : Tok} {n : Nat} (hA : Ok A n) (ha : h.IsList a xs.toArray) (hi : IntsAre xs ns) (H : Q (.bool (!decide (i ∈ ns))) h) :
    Wp (model prog w) A (compareOp .NotIn (.int i t) (.ref a)) Q h := fun s E e => by
  subst e
  refine SeqAt.notIn_list_reads (reads_list ha hi) (.int i t) (ke_canLayAll0 ns) rfl ?_ ⟨Same.rfl' s, by rw [any_int]; exact H⟩
  have := hA.units
  rw [ke_depthAll]
  omega
end

open PySem PySem.W PySem.Calls PyProof.Rows
set_option Elab.async false

structure ListMeth (name : Str) (id : String) : Prop where
  slot : Slot "list" name id
  ty : typeOf (.builtin id) = pure (.type "method_descriptor")

section
variable {prog : Program} {w : World} {A : Around} {h : Heap} {env : Env} {K : Frag} {Q : Value → Heap → Prop}

theorem Wp_meth {name : Str} {id : String} (m : ListMeth name id) {o : Expr} {apos pos : Pos} {args : List Expr}
    (H : Wp (model prog w) A (eval o env) (fun ov h₁ => ∃ D xs, ov = .ref D ∧ IsAt h₁ D (.list xs) ∧ Wp (model prog w) A (callWith pos (.builtin id) [.ref D] (backTo pos (starEach args env)) (backToKw pos (keywordEach [] env))) Q h₁) h)
    (hbase : attributeBase o name env (eval o env) = eval o env)
    (hfew : ((backTo pos (starEach args env)).all (fun x => !x.1) && (backToKw pos (keywordEach [] env)).all (fun x => x.1.isSome)
      && decide (args.length + ([] : List Keyword).length + (if ([] : List Keyword).isEmpty then 0 else 1) < 30)) = true)
    (hline : (apos.endLine == pos.line) = true) :
    Wp (model prog w) A (eval (.Call (.Attribute o name apos) args [] pos) env) Q h := fun s E e => by
  refine wpAny_Call_method hbase hfew hline PySem.F.plainAttrs_list m.slot m.ty (H.out e fun ov s₁ e₁ q => ?_)
  obtain ⟨D, xs, rfl, ⟨ob, hob, n, rfl⟩, q⟩ := q
  refine ⟨⟨_, hob, rfl⟩, fun a ha => ?_, q.out rfl fun _ _ e₂ q => ⟨e₁.trans e₂, q⟩⟩
  cases ha; exact ⟨_, hob, rfl⟩

theorem Wp_callM1 {f d : Value} {pos : Pos} {e : Expr} {rest : List Expr} {Q : Value → Heap → Prop} (m : Machine f)
    (H : Wp (model prog w) A (spliced (backTo pos (starEach (e :: rest) env))) (fun vs h₁ => Wp (model prog w) A (call f (d :: vs)) Q h₁) h)
    (he : starEach (e :: rest) env = (false, eval e env) :: starEach rest env := by rfl) (hplain : (backTo pos (starEach rest env)).any (·.1) = false := by rfl) :
    Wp (model prog w) A (callWith pos f [d] (backTo pos (starEach (e :: rest) env)) (backToKw pos (keywordEach [] env))) Q h := Wp_callM m H he hplain
theorem Wp_callMn {f : Value} {pos : Pos} {e : Expr} {rest : List Expr} {Q : Value → Heap → Prop} (m : Machine f)
    (H : Wp (model prog w) A (spliced (backTo pos (starEach (e :: rest) env))) (fun vs h₁ => Wp (model prog w) A (call f vs) Q h₁) h)
    (he : starEach (e :: rest) env = (false, eval e env) :: starEach rest env := by rfl) (hplain : (backTo pos (starEach rest env)).any (·.1) = false := by rfl) :
    Wp (model prog w) A (callWith pos f [] (backTo pos (starEach (e :: rest) env)) (backToKw pos (keywordEach [] env))) Q h := Wp_callM m H he hplain
theorem Wp_callM01 {f d : Value} {pos : Pos} {Q : Value → Heap → Prop} (m : Machine f)
    (H : Wp (model prog w) A (call f [d]) Q h) :
    Wp (model prog w) A (callWith pos f [d] (backTo pos (starEach [] env)) (backToKw pos (keywordEach [] env))) Q h := Wp_callM0 m H

/-- a call of a def of the text, by places alone -/
theorem Wp_callD {g env' vars vals caps N} (_S : St K g env' vars vals caps N h) {f : Value} {pos : Pos} {e : Expr} {rest : List Expr} (hk : keepIn K f = true)
    (H : Wp (model prog w) A (spliced (backTo pos (starEach (e :: rest) env))) (fun vs h₁ => K.In h₁ ∧ Wp (model prog w) A (call f vs) Q h₁) h)
    (he : starEach (e :: rest) env = (false, eval e env) :: starEach rest env := by rfl) (hplain : (backTo pos (starEach rest env)).any (·.1) = false := by rfl) :
    Wp (model prog w) A (callWith pos f [] (backTo pos (starEach (e :: rest) env)) (backToKw pos (keywordEach [] env))) Q h := Wp_callK hk H he hplain
theorem Wp_callDkw {g env' vars vals caps N} (_S : St K g env' vars vals caps N h) {f : Value} {pos : Pos} {e : Expr} {rest : List Expr} {kws : List Keyword} (hk : keepIn K f = true)
    (H : Wp (model prog w) A (spliced (backTo pos (starEach (e :: rest) env))) (fun vs h₁ => Wp (model prog w) A (evalAll ((backToKw pos (keywordEach kws env)).map (·.2)))
      (fun ks h₂ => K.In h₂ ∧ Wp (model prog w) A (call f vs (((backToKw pos (keywordEach kws env)).filterMap (·.1)).zip ks)) Q h₂) h₁) h)
    (he : starEach (e :: rest) env = (false, eval e env) :: starEach rest env := by rfl) (hplain : (backTo pos (starEach rest env)).any (·.1) = false := by rfl)
    (hall : (backToKw pos (keywordEach kws env)).all (·.1.isSome) = true := by rfl) (hall' : (backToKw pos (keywordEach kws env)).any (·.1.isNone) = false := by rfl) :
    Wp (model prog w) A (callWith pos f [] (backTo pos (starEach (e :: rest) env)) (backToKw pos (keywordEach kws env))) Q h := Wp_callKkw hk H he hplain hall hall'

theorem Wp_setItem {g env' vars vals caps N N'} (S : St K g env' vars vals caps N h) {D : Addr} {xs : List Value} {k : Int} {t : Tok} {v : Value} {Q : Unit → Heap → Prop} (hD : (D, .list xs) ∈ N ∨ (D, .ilist xs) ∈ N) (p : LPut N D (.ilist (xs.set k.toNat v)) N')
    (h0 : 0 ≤ k) (hfit : k < 2 ^ 62) (hn : k < xs.length) (H : ∀ h', St K g env' vars vals caps N' h' → Q () h') : Wp (model prog w) A (setItem (.ref D) (.int k t) v) Q h := fun s E e => by
  subst e
  have hl : s.heap.IsList D xs.toArray := hD.elim (fun x => (S.at x).isList) (fun x => (S.at x).isIList)
  refine wpAny_setItem_list hl h0 (by omega) (by simpa using hn) fun h' hl' hs' => ⟨Same.mk' s h' s.toks, H h' (S.upd p hs'.extBut ?_)⟩
  obtain ⟨o, ho, hc, n, hd⟩ := hl'
  exact ⟨o, ho, hc, n, by simpa using hd⟩
end

local macro_rules | `(tactic| walk_at "sub") => `(tactic| with_reducible (repeat (first | exact List.Sublist.refl _ | apply List.Sublist.cons_cons | apply List.Sublist.cons)))
theorem Wp_iter_range0 {prog : Program} {w : World} {A : Around} {h : Heap} {l : Addr} {n : Nat} {t u v : Tok} {Q : Value → Heap → Prop} (hl : IsAt h l (rngCn 0 (n : Int) t u v)) (hs : n ≤ 2 ^ 60)
    (H : ∀ I h', Fresh h I ((Src.rng 0 n).cn 0) h' → Q (.ref I) h') : Wp (model prog w) A (pyIter (.ref l)) Q h :=
  Wp_iter_range hl (small_of (by omega) (by omega) (by omega) (by omega)) fun I h' F => H I h' (by rw [show ((n : Int) - 0).toNat = n by omega] at F; exact F)
theorem St.weakL {K : Frag} {g h : Heap} {env : Env} {vars : List Str} {vals : List (Option Value)} {caps : List (Str × Value)} {N : List (Addr × Cn)} {D : Addr} {vs : List Value}
    (S : St K g env vars vals caps ((D, .list vs) :: N) h) : St K g env vars vals caps ((D, .ilist vs) :: N) h :=
  S.upd .head (fun _ _ _ e => e) (S.at (.head _)).weakL
theorem fmod_lt {a : Int} {L : Nat} (h : 0 < L) : 0 ≤ a.fmod L ∧ a.fmod L < L := by
  rw [Int.fmod_eq_emod_of_nonneg _ (by omega)]
  exact ⟨Int.emod_nonneg _ (by omega), Int.emod_lt_of_pos _ (by omega)⟩
theorem St.listInts {K : Frag} {g h : Heap} {env : Env} {vars : List Str} {vals : List (Option Value)} {caps : List (Str × Value)} {N : List (Addr × Cn)} {D : Addr} {vs : List Value} {ms : List Int}
    (S : St K g env vars vals caps ((D, .list vs) :: N) h) (hI : IntsAre vs ms) : ∃ vs', St K g env vars vals caps ((D, .list vs') :: N) h ∧ IntsAre vs' ms := ⟨vs, S, hI⟩
theorem meth_append : ListMeth "append" "list.append" := ⟨slot_list_append, PySem.F.type_list_append⟩

set_option hygiene false in
local macro_rules | `(tactic| walk_at "m") => `(tactic| with_reducible first
  | (refine Wp_half ?_; intro t)
  | refine Wp_callMn (by constructor) ?_ (by with_unfolding_all rfl) (by with_unfolding_all rfl)
  | refine Wp_callM1 (by constructor) ?_ (by with_unfolding_all rfl) (by with_unfolding_all rfl)
  | refine Wp_callM01 (by constructor) ?_
  | (refine Wp_newList (by with_unfolding_all exact Nat.le_of_ble_eq_true rfl) ?_; intro r h F; replace S := F.st S; clear F)
  | (refine Wp_newTuple (by with_unfolding_all exact Nat.le_of_ble_eq_true rfl) ?_; intro r h F; replace S := F.st S; clear F)
  | (refine Wp_mod (by with_unfolding_all decide) ?_; intro t)
  | refine Wp_callD S (by with_unfolding_all rfl) ?_ (by with_unfolding_all rfl) (by with_unfolding_all rfl)
  | refine Wp_callDkw S (by with_unfolding_all rfl) ?_ (by with_unfolding_all rfl) (by with_unfolding_all rfl) (by with_unfolding_all rfl) (by with_unfolding_all rfl)
  | refine Wp_kw_cons ?_
  | refine Wp_kw_nil ?_
  | (refine ⟨S.wd.K.keeps S.keep, ?_⟩)
  | refine Wp_Expr ?_ S.kfun (by with_unfolding_all rfl)
  | refine Wp_Assign_Subscript ?_ (by with_unfolding_all rfl)
  | (refine Wp_meth meth_append ?_ (by with_unfolding_all rfl) (by with_unfolding_all rfl) (by with_unfolding_all rfl))
  | (refine Wp_Slice ?_)
  | refine Wp_part_none ?_
  | refine Wp_part_some ?_
  | (refine Wp_abs ?_; intro t)
  | (refine Wp_range1 ?_; intro r h t u v F; replace S := F.st S; clear F)
  | (refine Wp_range2 ?_; intro r h t u v F; replace S := F.st S; clear F))

open PySem PySem.W PySem.Calls PyProof.Rows
set_option Elab.async false

section
variable {prog : Program} {w : World} {A : Around} {h : Heap} {env : Env}

theorem Cp_compStart2 {elt target iter : Expr} {ifs : List Expr} {g₀ : Comprehension} {scope : Scope} {pos : Pos} {it acc : Value} {Q : Flow → Heap → Prop}
    (h0 : Cp (model prog w) A (.compLoop (.ListComp elt [g₀, ⟨target, iter, ifs, 0⟩] scope pos) 1 it acc env) Q h)
    (h1 : Wp (model prog w) A (pyIter it) (fun it' h' => Cp (model prog w) A (.compLoop (.ListComp elt [g₀, ⟨target, iter, ifs, 0⟩] scope pos) 1 it' acc env) Q h') h) :
    Cp (model prog w) A (.compStart (.ListComp elt [g₀, ⟨target, iter, ifs, 0⟩] scope pos) 1 it acc env) Q h := fun s hs => by
  refine codeAny_of_tree ?_
  show wpAny _ _ ((compStart (.ListComp elt [g₀, ⟨target, iter, ifs, 0⟩] scope pos) 1 it acc env).onRaise (fun x => do noteFrame x env; standAt theWindowsPlace)) _ _ s
  refine wpAny_notedAt ?_
  unfold compStart
  show wpAny _ _ (ask >>= _) _ _ s
  refine wpAny_bind (wpAny_askSetting (wpAny_ite ?_))
  split
  · first
      | exact wpAny_bind (wpAny_pure (wpAny_pure (And.intro rfl (h0 s hs))))
      | exact wpAny_pure (And.intro rfl (h0 s hs))
  · have h' : ∀ E, wpAny (model prog w) A (pyIter it) (fun it' s' => codeAny (model prog w) A (.compLoop (.ListComp elt [g₀, ⟨target, iter, ifs, 0⟩] scope pos) 1 it' acc env) (fun r s'' => ∃ f, r = .ok f ∧ Same s s'' ∧ Q f s''.heap) s') E s := fun E =>
      h1.out hs fun it' s' e q => q.out rfl fun f s'' e' q => ⟨f, rfl, e.trans e', q⟩
    first
      | exact wpAny_bind (wpAny_rule (wpAny_bind (wpAny_standAt (wpAny_bind (wpAny_mono (h' _) (fun it' s' h' => wpAny_pure (And.intro rfl h')) fun _ _ x => x)))))
      | (refine wpAny_bind (wpAny_rule ?_); show wpAny _ _ (standAt iter.pos >>= _) _ _ s; exact wpAny_bind (wpAny_standAt (wpAny_bind (wpAny_mono (h' _) (fun it' s' h' => wpAny_pure (And.intro rfl h')) fun _ _ x => x))))

theorem Wp_runOwn {c : Code} {Q : Flow → Heap → Prop} (H : Cp (model prog w) A c Q h) : Wp (model prog w) A (runOwn c env) Q h :=
  fun _ _ e => wpAny_runOwn (H.out e fun _ _ e q => ⟨e, q⟩)
theorem Wp_innerS {elt : Expr} {gens : List Comprehension} {scope : Scope} {pos : Pos} {iter : Expr} {acc : Value} {c : Code} {Q : Fin → Heap → Prop}
    (H : Wp (model prog w) A (eval iter env) (fun x h₁ => Wp (model prog w) A (pyIter x) (fun it h₂ => Cp (model prog w) A (.compStart (.ListComp elt gens scope pos) 1 it acc env) (fun _ h₃ => Q (.again c) h₃) h₂) h₁) h)
    (hs : ∀ x, foldedSetIterable iter env x = pure x := by intro _; rfl) : Wp (model prog w) A (innerS elt gens scope pos iter acc env c) Q h := by
  unfold innerS
  refine Wp_bind (H.mono fun x h₁ H₁ => Wp_bind (Wp_standAt (Wp_bind (Wp_of_eq (hs x) (Wp_pure (Wp_bind (Wp_holding (H₁.mono fun it h₂ H₂ => Wp_bind ((Wp_runOwn H₂).mono fun _ h₃ q => ?_)))))))))
  exact Wp_pure q
end

section
variable {prog : Program} {w : World} {A : Around} {K : Frag} {g h : Heap} {env : Env} {vars : List Str} {vals : List (Option Value)} {caps : List (Str × Value)} {N : List (Addr × Cn)}

theorem Src.base_ext {src : Src} {g h : Heap} (b : src.base g) (e : Ext g h) : src.base h := by
  cases src with
  | lst l vs => exact isListExt b e
  | tpl l vs => obtain ⟨o, ho, r⟩ := b; exact ⟨o, e _ _ ho, r⟩
  | rng a n => trivial
  | rngs a c n => trivial
theorem Src.base_but {src : Src} {i : Nat} {I : Addr} {g h : Heap} (b : src.base h) (hi : IsAt h I (src.cn i)) (e : Heap.ExtBut I h g) : src.base g := by
  cases src with
  | lst l vs =>
    obtain ⟨o, ho, r⟩ := b
    refine ⟨o, e _ _ (fun q => ?_) ho, r⟩
    obtain ⟨o', ho', hc'⟩ := hi
    rw [q, ho'] at ho; cases ho
    have := hc'.1
    rw [r.1] at this; exact absurd this (by simp)
  | tpl l vs =>
    obtain ⟨o, ho, r⟩ := b
    refine ⟨o, e _ _ (fun q => ?_) ho, r⟩
    obtain ⟨o', ho', hc'⟩ := hi
    rw [q, ho'] at ho; cases ho
    have := hc'.1
    rw [r.1] at this; exact absurd this (by simp)
  | rng a n => trivial
  | rngs a c n => trivial

/-- a comprehension of two clauses without tests -/
theorem CompGoal.two {I : Addr} {src : Src} {elt iter iter₂ : Expr} {x y : Str} {px py : Pos} {scope : Scope} {pos : Pos} {Q : Value → Heap → Prop}
    (S : St K g env vars vals caps ((I, src.cn 0) :: N) h) (hA : A.handled = none) (hb : src.base h) (caps' : List (Str × Value)) (len₂ : Nat → Nat) (item₂ : Nat → Nat → Value → Prop) (P : Nat → Nat → List Value → Heap → Prop)
    (hok : compOk scope [x, y] (caps'.map (·.1)) = true) (hcaps : CapsOk env h caps') (hs : ∀ (cenv : Env) v, foldedSetIterable iter₂ cenv v = pure v)
    (start : ∀ g', Ext g g' → P 0 0 [] g') (next : ∀ i ys g, P i (len₂ i) ys g → P (i + 1) 0 ys g) (hsz : ∀ i j ys g, P i j ys g → ys.length ≤ sizeLine)
    (source : ∀ (cenv : Env) g' D ys i v oy h', cenv.scope = relabel scope env → Ext g g' → (∀ q ∈ N, IsAt g' q.1 q.2) → i < src.len → src.item i v → P i 0 ys g' → St K g' cenv [x, y] [some v, oy] caps' [(I, src.cn (i + 1)), (D, .list ys)] h' →
      Wp (model prog w) A (eval iter₂ cenv) (fun x₂ h₁ => Wp (model prog w) A (pyIter x₂) (fun it₂ h₂ => ∃ I₂ src₂ g₂, it₂ = .ref I₂ ∧ Src.len src₂ = len₂ i ∧ (∀ j v, src₂.item j v → item₂ i j v) ∧ Ext g' g₂ ∧ src₂.base g₂ ∧ P i 0 ys g₂ ∧
        St K g₂ cenv [x, y] [some v, oy] caps' ((I₂, src₂.cn 0) :: (I, src.cn (i + 1)) :: [(D, .list ys)]) h₂) h₁) h')
    (elem : ∀ (cenv : Env) g' D ys i j v v₂ I₂ c₂ h', cenv.scope = relabel scope env → Ext g g' → (∀ q ∈ N, IsAt g' q.1 q.2) → i < src.len → src.item i v → j < len₂ i → item₂ i j v₂ → P i j ys g' →
      St K g' cenv [x, y] [some v, some v₂] caps' ((I₂, c₂) :: (I, src.cn (i + 1)) :: [(D, .list ys)]) h' →
      Wp (model prog w) A (eval elt cenv) (fun y' h₂ => ∃ g₂, Ext g' g₂ ∧ P i (j + 1) (ys ++ [y']) g₂ ∧ St K g₂ cenv [x, y] [some v, some v₂] caps' ((I₂, c₂) :: (I, src.cn (i + 1)) :: [(D, .list ys)]) h₂) h')
    (H : ∀ ys g'' D h₅, P src.len 0 ys g'' → Ext g g'' → Ext g'' h₅ → g''.get? D = none → h.get? D = none → St K g env vars vals caps ((D, .list ys) :: N) h₅ → Q (.ref D) h₅) :
    CompGoal prog w A K env elt [⟨.Name x px, iter, [], 0⟩, ⟨.Name y py, iter₂, [], 0⟩] scope pos (.ref I) Q h := by
  have gI := (S.news (I, src.cn 0) (.head _)).2.2.1
  have hggOf : ∀ g', Heap.ExtBut I h g' → Ext g g' := fun g' hx b o e => hx b o (fun q => by rw [q, gI] at e; cases e) (S.keep b o e)
  refine ⟨I, src, g, vars, vals, caps, N, rfl, S, [x, y], caps', fun ys g'' => P src.len 0 ys g'', hok, hcaps, fun cenv g' D h' hsc hx hD Sc => ?_, fun ys g'' D h₅ hP hx hg hgD hD Sf => H ys g'' D h₅ hP (hggOf g'' hx) hg hgD hD Sf⟩
  have hgg : Ext g g' := hggOf g' hx
  have hNN : ∀ q ∈ N, IsAt g' q.1 q.2 := fun q hq => by
    have nd := List.nodup_cons.mp S.nodN
    exact (S.news q (.tail _ hq)).1.but hx fun z => nd.1 (by have := List.mem_map_of_mem (f := (·.1)) hq; rwa [z] at this)
  have hbg : src.base g' := Src.base_but hb (S.at (.head _)) hx
  refine Cp_compLoop (turn2a ..) src (fun i g₁ vals₁ N₁ => Ext g' g₁ ∧ ∃ ys o o', vals₁ = [o, o'] ∧ N₁ = [(D, .list ys)] ∧ P i 0 ys g₁) hA Sc ⟨Ext.refl _, [], none, none, rfl, rfl, start g' hgg⟩ ?_ ?_ ?_
  · rintro i g₁ vals₁ N₁ h₁ ⟨hx₁, _⟩ S₁
    exact Src.base_ext (Src.base_ext hbg hx₁) S₁.keep
  · rintro i v g₁ vals₁ N₁ h₁ hi hv ⟨hx₁, ys, o, o', rfl, rfl, hP⟩ S₁
    refine Wp_letOwned_Name (Wp_assign_Name (Wp_store S₁ .head fun h₂ S₂ => Wp_tests_nil ?_))
    refine Wp_innerS ?_ (hs cenv)
    refine (source cenv g₁ D ys i v _ h₂ hsc (hgg.trans hx₁) (fun q hq => (hNN q hq).ext hx₁) hi hv hP S₂).mono fun x₂ h₃ H₃ => H₃.mono fun it₂ h₄ H₄ => ?_
    obtain ⟨I₂, src₂, g₂, rfl, hl₂, hi₂, hx₂, hb₂, hP₂, S₄⟩ := H₄
    have loop : Cp (model prog w) A (.compLoop (.ListComp elt [⟨.Name x px, iter, [], 0⟩, ⟨.Name y py, iter₂, [], 0⟩] scope pos) 1 (.ref I₂) (.ref D) cenv) (fun _ h₅ => Fin.again (.compLoop (.ListComp elt [⟨.Name x px, iter, [], 0⟩, ⟨.Name y py, iter₂, [], 0⟩] scope pos) 0 (.ref I) (.ref D) cenv) = .again (.compLoop (.ListComp elt [⟨.Name x px, iter, [], 0⟩, ⟨.Name y py, iter₂, [], 0⟩] scope pos) 0 (.ref I) (.ref D) cenv) ∧
        ∃ g'' vals' N', (Ext g' g'' ∧ ∃ ys o o', vals' = [o, o'] ∧ N' = [(D, .list ys)] ∧ P (i + 1) 0 ys g'') ∧ St K g'' cenv [x, y] vals' caps' ((I, src.cn (i + 1)) :: N') h₅) h₄ := by
      refine Cp_compLoop (turn2b ..) src₂ (fun j g₃ vals₃ N₃ => Ext g₂ g₃ ∧ ∃ ys o', vals₃ = [some v, o'] ∧ N₃ = (I, src.cn (i + 1)) :: [(D, .list ys)] ∧ P i j ys g₃) hA S₄ ⟨Ext.refl _, ys, _, rfl, rfl, hP₂⟩ ?_ ?_ ?_
      · rintro j g₃ vals₃ N₃ h₅ ⟨hx₃, _⟩ S₅
        exact Src.base_ext (Src.base_ext hb₂ hx₃) S₅.keep
      · rintro j v₂ g₃ vals₃ N₃ h₅ hj hv₂ ⟨hx₃, zs, o'', rfl, rfl, hP₃⟩ S₅
        have hxx : Ext g' g₃ := (hx₁.trans hx₂).trans hx₃
        refine Wp_letOwned_Name (Wp_assign_Name (Wp_store S₅ (.tail .head) fun h₆ S₆ => Wp_tests_nil ?_))
        refine Wp_bind (Wp_emit ((elem cenv g₃ D zs i j v v₂ I₂ _ h₆ hsc (hgg.trans hxx) (fun q hq => (hNN q hq).ext hxx) hi hv (by rw [← hl₂]; exact hj) (hi₂ j v₂ hv₂) hP₃ S₆).mono fun y' h₇ H₇ => ?_))
        obtain ⟨g₄, hx₄, hP₄, S₇⟩ := H₇
        refine Wp_append S₇ (D := D) (ys := zs) (.tail _ (.tail _ (.head _))) (.tail (.tail .head)) (hsz _ _ _ _ hP₃) fun h₈ S₈ => Wp_pure ⟨rfl, g₄, _, _, ⟨hx₃.trans hx₄, _, _, rfl, rfl, hP₄⟩, S₈⟩
      · rintro g₃ vals₃ N₃ h₅ ⟨hx₃, zs, o'', rfl, rfl, hP₃⟩ S₅
        refine ⟨rfl, g₃, _, _, ⟨(hx₁.trans hx₂).trans hx₃, zs, _, _, rfl, rfl, next _ _ _ (hl₂ ▸ hP₃)⟩, S₅⟩
    exact Cp_compStart2 loop (iter_self (i := 0) (S₄.at (.head _)) loop)
  · rintro g₁ vals₁ N₁ h₁ ⟨hx₁, ys, o, o', rfl, rfl, hP⟩ S₁
    exact ⟨ys, g₁, _, S₁, hx₁, hP⟩
end

open PySem PySem.W PySem.Calls PyProof.Rows
set_option Elab.async false
section
variable {prog : Program} {w : World} {A : Around} {K : Frag} {g h : Heap} {env : Env} {vars : List Str} {vals : List (Option Value)} {caps : List (Str × Value)} {N : List (Addr × Cn)}
/-- a comprehension of one clause without tests whose turns may make objects -/
theorem CompGoal.build {I : Addr} {src : Src} {elt iter : Expr} {x : Str} {px : Pos} {scope : Scope} {pos : Pos} {Q : Value → Heap → Prop}
    (S : St K g env vars vals caps ((I, src.cn 0) :: N) h) (hA : A.handled = none) (hb : src.base h) (caps' : List (Str × Value)) (P : Nat → List Value → Heap → Prop)
    (hok : compOk scope [x] (caps'.map (·.1)) = true) (hcaps : CapsOk env h caps')
    (start : ∀ g', Ext g g' → P 0 [] g') (hsz : ∀ i ys g, P i ys g → ys.length ≤ sizeLine)
    (elem : ∀ (cenv : Env) g' D ys i v h', cenv.scope = relabel scope env → Heap.ExtBut I h g' → Ext g g' → (∀ q ∈ N, IsAt g' q.1 q.2) → i < src.len → src.item i v → P i ys g' →
      St K g' cenv [x] [some v] caps' [(I, src.cn (i + 1)), (D, .list ys)] h' →
      Wp (model prog w) A (eval elt cenv) (fun y h₂ => ∃ g₂, Ext g' g₂ ∧ P (i + 1) (ys ++ [y]) g₂ ∧ St K g₂ cenv [x] [some v] caps' [(I, src.cn (i + 1)), (D, .list ys)] h₂) h')
    (H : ∀ ys g'' D h₅, P src.len ys g'' → Ext g g'' → (∀ q ∈ N, IsAt g'' q.1 q.2) → Ext g'' h₅ → g''.get? D = none → h.get? D = none → St K g env vars vals caps ((D, .list ys) :: N) h₅ → Q (.ref D) h₅) :
    CompGoal prog w A K env elt [⟨.Name x px, iter, [], 0⟩] scope pos (.ref I) Q h := by
  have gI := (S.news (I, src.cn 0) (.head _)).2.2.1
  have hggOf : ∀ g', Heap.ExtBut I h g' → Ext g g' := fun g' hx b o e => hx b o (fun q => by rw [q, gI] at e; cases e) (S.keep b o e)
  have hNOf : ∀ g', Heap.ExtBut I h g' → ∀ q ∈ N, IsAt g' q.1 q.2 := fun g' hx q hq => by
    have nd := List.nodup_cons.mp S.nodN
    exact (S.news q (.tail _ hq)).1.but hx fun z => nd.1 (by have := List.mem_map_of_mem (f := (·.1)) hq; rwa [z] at this)
  refine ⟨I, src, g, vars, vals, caps, N, rfl, S, [x], caps', fun ys g'' => P src.len ys g'', hok, hcaps, fun cenv g' D h' hsc hx hD Sc => ?_, fun ys g'' D h₅ hP hx hg hgD hD Sf => H ys g'' D h₅ hP (hggOf g'' hx) (hNOf g'' hx) hg hgD hD Sf⟩
  have hgg : Ext g g' := hggOf g' hx
  have hNN := hNOf g' hx
  have hbg : src.base g' := Src.base_but hb (S.at (.head _)) hx
  refine Cp_compLoop (turn1 ..) src (fun i g₁ vals₁ N₁ => Ext g' g₁ ∧ ∃ ys o, vals₁ = [o] ∧ N₁ = [(D, .list ys)] ∧ P i ys g₁) hA Sc ⟨Ext.refl _, [], none, rfl, rfl, start g' hgg⟩ ?_ ?_ ?_
  · rintro i g₁ vals₁ N₁ h₁ ⟨hx₁, _⟩ S₁
    exact Src.base_ext (Src.base_ext hbg hx₁) S₁.keep
  · rintro i v g₁ vals₁ N₁ h₁ hi hv ⟨hx₁, ys, o, rfl, rfl, hP⟩ S₁
    refine Wp_letOwned_Name (Wp_assign_Name (Wp_store S₁ .head fun h₂ S₂ => Wp_tests_nil ?_))
    refine Wp_bind (Wp_emit ((elem cenv g₁ D ys i v h₂ hsc (fun b o hb e => hx₁ b o (hx b o hb e)) (hgg.trans hx₁) (fun q hq => (hNN q hq).ext hx₁) hi hv hP S₂).mono fun y h₄ H₄ => ?_))
    obtain ⟨g₄, hx₄, hP₄, S₄⟩ := H₄
    refine Wp_append S₄ (D := D) (ys := ys) (.tail _ (.head _)) (.tail .head) (hsz _ _ _ hP) fun h₅ S₅ => Wp_pure ⟨rfl, g₄, _, _, ⟨hx₁.trans hx₄, _, _, rfl, rfl, hP₄⟩, S₅⟩
  · rintro g₁ vals₁ N₁ h₁ ⟨hx₁, ys, o, rfl, rfl, hP⟩ S₁
    exact ⟨ys, g₁, _, S₁, hx₁, hP⟩
end

theorem St.rebaseNew {K : Frag} {g h h₀ : Heap} {env : Env} {vars : List Str} {vals vals₀ : List (Option Value)} {caps : List (Str × Value)} {N : List (Addr × Cn)} {I D : Addr} {c d : Cn}
    (S₀ : St K g env vars vals₀ caps ((I, c) :: N) h₀) (S : St K g env vars vals caps ((D, d) :: N) h) :
    ∃ g', Ext g g' ∧ St K g' env vars vals caps ((D, d) :: N) h ∧ ∀ a o, h₀.get? a = none → a ≠ D → h.get? a = some o → g'.get? a = some o := by
  obtain ⟨g', x, y, z⟩ := S.rebase
  refine ⟨g', x, y, fun a o hn hD ho => z a o ho fun q => ?_⟩
  have q' : a ∈ St.owned env vars N := by
    rcases List.mem_append.mp q with q | q
    · exact List.mem_append_left _ q
    · rcases List.mem_cons.mp q with q | q
      · exact absurd q hD
      · exact List.mem_append_right _ q
  obtain ⟨o', ho'⟩ := S₀.tail.owned_some a q'
  rw [hn] at ho'; cases ho'

theorem map_range_getD {α : Type} (f : Int → α) (l : List Int) : (List.range l.length).map (fun j => f (l.getD j 0)) = l.map f := by
  refine List.ext_getElem (by simp) fun i h1 h2 => ?_
  simp at h1
  simp [List.getD_eq_getElem?_getD, h1]

open PySem PySem.W PySem.Calls PyProof.Rows
noncomputable abbrev K1 (w : World) : Frag := hd1.heap_39 w.params
theorem gv_len {w} : GV (K1 w) "len" (.builtin "len") := .inr ⟨by rfl, by rfl, by decide⟩
theorem gv_range {w} : GV (K1 w) "range" (.type "range") := .inr ⟨by rfl, by rfl, by decide⟩
theorem gv_list {w} : GV (K1 w) "list" (.type "list") := .inr ⟨by rfl, by rfl, by decide⟩
theorem gv_sum {w} : GV (K1 w) "sum" (.builtin "sum") := .inr ⟨by rfl, by rfl, by decide⟩
theorem gv_sorted {w} : GV (K1 w) "sorted" (.builtin "sorted") := .inr ⟨by rfl, by rfl, by decide⟩
theorem gv_max {w} : GV (K1 w) "max" (.builtin "max") := .inr ⟨by rfl, by rfl, by decide⟩
theorem gv_abs {w} : GV (K1 w) "abs" (.builtin "abs") := .inr ⟨by rfl, by rfl, by decide⟩
theorem gv_br {w} : GV (K1 w) "bisect_right" (.ref 23) := .inl (by rfl)
theorem gv_bl {w} : GV (K1 w) "bisect_left" (.ref 32) := .inl (by rfl)
theorem gv_row {w} : GV (K1 w) "_law_row" (.ref 37) := .inl (by rfl)
theorem gv_noted {w} : GV (K1 w) "_law_noted" (.ref 44) := .inl (by rfl)
theorem gv_figures {w} : GV (K1 w) "_law_figures" (.ref 51) := .inl (by rfl)
theorem gv_nf {w} : GV (K1 w) "_law_never_falling" (.ref 56) := .inl (by rfl)
theorem gv_rises {w} : GV (K1 w) "_law_rises" (.ref 61) := .inl (by rfl)
theorem gv_stretch {w} : GV (K1 w) "_law_stretch" (.ref 66) := .inl (by rfl)
local macro_rules | `(tactic| walk_at "gv") => `(tactic| first | exact gv_len | exact gv_range | exact gv_list | exact gv_sum | exact gv_sorted | exact gv_max | exact gv_abs | exact gv_br | exact gv_bl | exact gv_row | exact gv_noted | exact gv_figures | exact gv_nf | exact gv_rises | exact gv_stretch)
local macro_rules | `(tactic| walk_at "m") => `(tactic| with_reducible (refine Wp_mid ?_; intro t))

open PySem PySem.W PySem.Calls PyProof.Rows
set_option Elab.async false
set_option maxRecDepth 100000
theorem bl1 {prog w} {A : Around} {h₀ : Heap} {a : Addr} {xs : List Value} {ns : List Int} {x : Int} {t1 t2 t3 : Tok} {lo hi : Nat} {Q : Value → Heap → Prop}
    (wd : Wd (K1 w) h₀) (hA : Ok A 2) (hl : h₀.IsList a xs.toArray) (hx : IntsAre xs ns) (hle : hi ≤ ns.length) (hlen : ns.length < 2 ^ 30)
    (H : ∀ t h', Ext h₀ h' → Q (.int (bs (fun i => decide (ns.getD i 0 < x)) lo hi) t) h') :
    Wp (model prog w) A (call (.ref 32) [.ref a, .int x t1, .int lo t2, .int hi t3] []) Q h₀ := by
  refine Wp_enter (K := K1 w) ["a", "x", "lo", "hi", "key", "mid"] [("a", .ref a), ("x", .int x t1), ("lo", .int lo t2), ("hi", .int hi t3), ("key", .none)] [some (.ref a), some (.int x t1), some (.int lo t2), some (.int hi t3), some .none, none]
    wd (Ext.refl h₀) (N := []) (by simp) (by simp) hA (by rfl) (by rfl) (fun S => by rfl) (by rfl) (by rfl) (by rfl) (by decide) ?_
  intro e h hsc hext hno hA' S
  repeat walk_at "m"
  refine Cp_while (fun n g vals N => ∃ lo' hi' : Nat, ∃ l r tl th om, l = (lo' : Int) ∧ r = (hi' : Int) ∧ n = hi' - lo' ∧ hi' ≤ hi ∧ bs (fun i => decide (ns.getD i 0 < x)) lo' hi' = bs (fun i => decide (ns.getD i 0 < x)) lo hi ∧ h₀ = g ∧ N = [] ∧
    vals = [some (.ref a), some (.int x t1), some (.int l tl), some (.int r th), some .none, om]) S ⟨lo, hi, _, _, _, _, _, rfl, rfl, rfl, Nat.le_refl _, rfl, rfl, rfl, rfl⟩ ?_
  clear S
  rintro n g vals N h ⟨lo', hi', l, r, tl, th, om, rfl, rfl, rfl, hh, hbs, rfl, rfl, rfl⟩ S
  repeat walk_at "m"
  refine ⟨fun hb => ?_, fun hb => ?_⟩
  · have hlt : lo' < hi' := by simpa using hb
    repeat walk_at "m"
    obtain ⟨tv, hv⟩ := intsAt hx (i := (lo' + hi') / 2) (by omega)
    refine Wp_item_list (isListExt hl S.keep) (by omega) hv (by omega) ?_
    repeat walk_at "m"
    refine Wp_split (fun hc => ?_) (fun hc => ?_)
    · repeat walk_at "m"
      exact ⟨_, h₀, _, [], by omega, ⟨(lo' + hi') / 2 + 1, hi', _, _, _, _, _, by omega, rfl, rfl, hh, by rw [← hbs, bs_right hlt hc], rfl, rfl, rfl⟩, S⟩
    · repeat walk_at "m"
      exact ⟨_, h₀, _, [], by omega, ⟨lo', (lo' + hi') / 2, _, _, _, _, _, rfl, rfl, rfl, by omega, by rw [← hbs, bs_left hlt hc], rfl, rfl, rfl⟩, S⟩
  · have hlt : ¬ lo' < hi' := by simpa using hb
    repeat walk_at "m"
    rw [bs_done hlt] at hbs
    subst hbs
    exact H _ _ S.keep
theorem br1 {prog w} {A : Around} {h₀ : Heap} {a : Addr} {xs : List Value} {ns : List Int} {x : Int} {t1 t2 t3 : Tok} {lo hi : Nat} {Q : Value → Heap → Prop}
    (wd : Wd (K1 w) h₀) (hA : Ok A 2) (hl : h₀.IsList a xs.toArray) (hx : IntsAre xs ns) (hle : hi ≤ ns.length) (hlen : ns.length < 2 ^ 30)
    (H : ∀ t h', Ext h₀ h' → Q (.int (bs (fun i => !decide (x < ns.getD i 0)) lo hi) t) h') :
    Wp (model prog w) A (call (.ref 23) [.ref a, .int x t1, .int lo t2, .int hi t3] []) Q h₀ := by
  refine Wp_enter (K := K1 w) ["a", "x", "lo", "hi", "key", "mid"] [("a", .ref a), ("x", .int x t1), ("lo", .int lo t2), ("hi", .int hi t3), ("key", .none)] [some (.ref a), some (.int x t1), some (.int lo t2), some (.int hi t3), some .none, none]
    wd (Ext.refl h₀) (N := []) (by simp) (by simp) hA (by rfl) (by rfl) (fun S => by rfl) (by rfl) (by rfl) (by rfl) (by decide) ?_
  intro e h hsc hext hno hA' S
  repeat walk_at "m"
  refine Cp_while (fun n g vals N => ∃ lo' hi' : Nat, ∃ l r tl th om, l = (lo' : Int) ∧ r = (hi' : Int) ∧ n = hi' - lo' ∧ hi' ≤ hi ∧ bs (fun i => !decide (x < ns.getD i 0)) lo' hi' = bs (fun i => !decide (x < ns.getD i 0)) lo hi ∧ h₀ = g ∧ N = [] ∧
    vals = [some (.ref a), some (.int x t1), some (.int l tl), some (.int r th), some .none, om]) S ⟨lo, hi, _, _, _, _, _, rfl, rfl, rfl, Nat.le_refl _, rfl, rfl, rfl, rfl⟩ ?_
  clear S
  rintro n g vals N h ⟨lo', hi', l, r, tl, th, om, rfl, rfl, rfl, hh, hbs, rfl, rfl, rfl⟩ S
  repeat walk_at "m"
  refine ⟨fun hb => ?_, fun hb => ?_⟩
  · have hlt : lo' < hi' := by simpa using hb
    repeat walk_at "m"
    obtain ⟨tv, hv⟩ := intsAt hx (i := (lo' + hi') / 2) (by omega)
    refine Wp_item_list (isListExt hl S.keep) (by omega) hv (by omega) ?_
    repeat walk_at "m"
    refine Wp_split (fun hc => ?_) (fun hc => ?_)
    · repeat walk_at "m"
      exact ⟨_, h₀, _, [], by omega, ⟨lo', (lo' + hi') / 2, _, _, _, _, _, rfl, rfl, rfl, by omega, by rw [← hbs, bs_left hlt (by rw [hc]; rfl)], rfl, rfl, rfl⟩, S⟩
    · repeat walk_at "m"
      exact ⟨_, h₀, _, [], by omega, ⟨(lo' + hi') / 2 + 1, hi', _, _, _, _, _, by omega, rfl, rfl, hh, by rw [← hbs, bs_right hlt (by rw [hc]; rfl)], rfl, rfl, rfl⟩, S⟩
  · have hlt : ¬ lo' < hi' := by simpa using hb
    repeat walk_at "m"
    rw [bs_done hlt] at hbs
    subst hbs
    exact H _ _ S.keep

open PySem PySem.W PySem.Calls PyProof.Rows
set_option Elab.async false
set_option maxRecDepth 100000

/-- binary figures -/
def fig (n : Nat) : Nat := if 0 < n then fig (n / 2) + 1 else 0
termination_by n
theorem fig_pos {n : Nat} (h : 0 < n) : fig n = fig (n / 2) + 1 := by rw [fig, if_pos h]
theorem fig_zero : fig 0 = 0 := by rw [fig, if_neg (by decide)]

theorem figures1 {prog w} {A : Around} {h₀ : Heap} {n : Nat} {t1 : Tok} {Q : Value → Heap → Prop}
    (wd : Wd (K1 w) h₀) (hA : Ok A 2) (H : ∀ t h', Ext h₀ h' → Q (.int (fig n) t) h') :
    Wp (model prog w) A (call (.ref 51) [.int n t1] []) Q h₀ := by
  refine Wp_enter (K := K1 w) ["size", "count"] [("size", .int n t1)] [some (.int n t1), none]
    wd (Ext.refl h₀) (N := []) (by simp) (by simp) hA (by rfl) (by rfl) (fun S => by rfl) (by rfl) (by rfl) (by rfl) (by decide) ?_
  intro e h hsc hext hno hA' S
  repeat walk_at "m"
  refine Cp_while (fun m g vals N => ∃ s : Nat, ∃ c t1 t2, m = s ∧ (c + fig s : Int) = fig n ∧ h₀ = g ∧ N = [] ∧ vals = [some (.int (s : Int) t1), some (.int c t2)]) S ⟨n, _, _, _, rfl, by omega, rfl, rfl, rfl⟩ ?_
  clear S
  rintro m g vals N h ⟨s, c, t1, t2, rfl, hc, rfl, rfl, rfl⟩ S
  repeat walk_at "m"
  refine ⟨fun hb => ?_, fun hb => ?_⟩
  · have hs : 0 < m := by simpa using hb
    repeat walk_at "m"
    exact ⟨m / 2, h₀, _, [], by omega, ⟨m / 2, _, _, _, rfl, by rw [fig_pos hs] at hc; omega, rfl, rfl, rfl⟩, S⟩
  · have hs : ¬ 0 < m := by simpa using hb
    have : m = 0 := by omega
    subst this
    rw [fig_zero] at hc
    repeat walk_at "m"
    have e1 : c = (fig n : Int) := by omega
    subst e1
    exact H _ _ S.keep

open PySem PySem.W PySem.Calls PyProof.Rows
set_option Elab.async false
set_option maxRecDepth 100000

theorem noted1 {prog w} {A : Around} {g h₀ : Heap} {nt it : Addr} {zs : List Value} {v : Int} {tv : Tok} {Q : Value → Heap → Prop}
    (wd : Wd (K1 w) g) (hk : Ext g h₀) (hn : IsAt h₀ nt (.list zs)) (hg : g.get? nt = none) (hi : g.IsList it [.int v tv, .ref nt].toArray) (hz : zs.length ≤ 1000) (hA : Ok A 1)
    (H : ∀ h', Heap.ExtBut nt h₀ h' → IsAt h' nt (.list (zs ++ [.int v tv])) → Q (.int v tv) h') :
    Wp (model prog w) A (call (.ref 44) [.ref it] []) Q h₀ := by
  have gh : Ext g (h₀.hide nt) := fun b o e => (Heap.hide_ne h₀ (fun q => by rw [q, hg] at e; cases e)).trans (hk b o e)
  refine Wp_enter (K := K1 w) ["item"] [("item", .ref it)] [some (.ref it)]
    (wd.ext gh) (g := h₀.hide nt) (fun b o e => Heap.of_hide e) (N := [(nt, .list zs)]) (by simp only [List.mem_singleton, forall_eq]; exact ⟨hn, Heap.hide_self h₀ nt⟩) (by simp) hA (by rfl) (by rfl) (fun S => by rfl) (by rfl) (by rfl) (by rfl) (by decide) ?_
  intro e h hsc hext hno hA' S
  have hi' := isListExt hi gh
  repeat walk_at "m"
  refine Wp_item_list (isListExt hi' S.keep) (by decide) rfl (by decide) ?_
  refine ⟨nt, zs, rfl, S.at (.head _), ?_⟩
  repeat walk_at "m"
  refine Wp_item_list (isListExt hi' S.keep) (by decide) rfl (by decide) ?_
  repeat walk_at "m"
  refine Wp_append S (.head _) .head (by rw [sizeLine_eq]; omega) fun h S => ⟨rfl, ?_⟩
  repeat walk_at "m"
  refine Wp_item_list (isListExt hi' S.keep) (by decide) rfl (by decide) ?_
  exact H _ (fun b o hb e => S.keep _ _ ((Heap.hide_ne h₀ hb).trans e)) (S.at (.head _))

open PySem PySem.W PySem.Calls PyProof.Rows
set_option Elab.async false
set_option maxRecDepth 100000

theorem fig_mono : ∀ (b a : Nat), a ≤ b → fig a ≤ fig b := by
  intro b
  induction b using Nat.strongRecOn with
  | _ b ih =>
    intro a hab
    by_cases ha : 0 < a
    · rw [fig_pos ha, fig_pos (Nat.lt_of_lt_of_le ha hab)]
      have := ih (b / 2) (by omega) (a / 2) (by omega)
      omega
    · have : a = 0 := by omega
      subst this; rw [fig_zero]; exact Nat.zero_le _

theorem blk1 {prog w} {A : Around} {g h₀ : Heap} {nt a : Addr} {xs : List Value} {ns : List Int} {x : Int} {t1 t2 t3 : Tok} {lo hi : Nat} {Q : Value → Heap → Prop}
    (wd : Wd (K1 w) g) (hk : Ext g h₀) (hn : IsAt h₀ nt (.list [])) (hg : g.get? nt = none) (hl : g.IsList a xs.toArray)
    (hx : ∀ i, i < ns.length → ∃ it t, xs[i]? = some (.ref it) ∧ g.IsList it [.int (ns.getD i 0) t, .ref nt].toArray) (hle : hi ≤ ns.length) (hlen : ns.length ≤ 100) (hA : Ok A 2)
    (H : ∀ t h' zs, Heap.ExtBut nt h₀ h' → IsAt h' nt (.list zs) → zs.length ≤ fig (hi - lo) → Q (.int (bs (fun i => decide (ns.getD i 0 < x)) lo hi) t) h') :
    Wp (model prog w) A (call (.ref 32) [.ref a, .int x t1, .int lo t2, .int hi t3] [("key", .ref 44)]) Q h₀ := by
  have gh : Ext g (h₀.hide nt) := fun b o e => (Heap.hide_ne h₀ (fun q => by rw [q, hg] at e; cases e)).trans (hk b o e)
  have wd' := wd.ext gh
  have hf : fig (hi - lo) ≤ 200 := by
    have h1 := fig_mono 127 (hi - lo) (by omega)
    have h2 : fig 127 ≤ 200 := by decide +kernel
    omega
  refine Wp_enter (K := K1 w) ["a", "x", "lo", "hi", "key", "mid"] [("a", .ref a), ("x", .int x t1), ("lo", .int lo t2), ("hi", .int hi t3), ("key", .ref 44)] [some (.ref a), some (.int x t1), some (.int lo t2), some (.int hi t3), some (.ref 44), none]
    wd' (g := h₀.hide nt) (fun b o e => Heap.of_hide e) (N := [(nt, .list [])]) (by simp only [List.mem_singleton, forall_eq]; exact ⟨hn, Heap.hide_self h₀ nt⟩) (by simp) hA (by rfl) (by rfl) (fun S => by rfl) (by rfl) (by rfl) (by rfl) (by decide) ?_
  intro e h hsc hext hno hA' S
  repeat walk_at "m"
  refine Cp_while (fun n g' vals N => ∃ lo' hi' : Nat, ∃ l r tl th om zs, l = (lo' : Int) ∧ r = (hi' : Int) ∧ n = hi' - lo' ∧ hi' ≤ hi ∧ bs (fun i => decide (ns.getD i 0 < x)) lo' hi' = bs (fun i => decide (ns.getD i 0 < x)) lo hi ∧ h₀.hide nt = g' ∧ N = [(nt, .list zs)] ∧ zs.length + fig (hi' - lo') ≤ fig (hi - lo) ∧
    vals = [some (.ref a), some (.int x t1), some (.int l tl), some (.int r th), some (.ref 44), om]) S ⟨lo, hi, _, _, _, _, _, [], rfl, rfl, rfl, Nat.le_refl _, rfl, rfl, rfl, by simp, rfl⟩ ?_
  clear S
  rintro n g' vals N h ⟨lo', hi', l, r, tl, th, om, zs, rfl, rfl, rfl, hh, hbs, rfl, rfl, hz, rfl⟩ S
  repeat walk_at "m"
  refine ⟨fun hb => ?_, fun hb => ?_⟩
  · have hlt : lo' < hi' := by simpa using hb
    have hfp := fig_pos (n := hi' - lo') (by omega)
    repeat walk_at "m"
    obtain ⟨it, tv, hv, hit⟩ := hx ((lo' + hi') / 2) (by omega)
    refine Wp_item_list (isListExt (isListExt hl gh) S.keep) (by omega) hv (by omega) ?_
    repeat walk_at "m"
    refine noted1 (g := h₀.hide nt) (zs := zs) wd' S.keep (S.at (.head _)) (Heap.hide_self h₀ nt) (isListExt hit gh) (by omega) hA' fun h hx hat => ?_
    replace S := S.upd .head hx hat
    clear hx hat
    repeat walk_at "m"
    refine Wp_split (fun hc => ?_) (fun hc => ?_)
    · repeat walk_at "m"
      have hm := fig_mono ((hi' - lo') / 2) (hi' - ((lo' + hi') / 2 + 1)) (by omega)
      exact ⟨_, _, _, _, by omega, ⟨(lo' + hi') / 2 + 1, hi', _, _, _, _, _, _, by omega, rfl, rfl, hh, by rw [← hbs, bs_right hlt hc], rfl, rfl, by rw [List.length_append, List.length_singleton]; omega, rfl⟩, S⟩
    · repeat walk_at "m"
      have hm := fig_mono ((hi' - lo') / 2) ((lo' + hi') / 2 - lo') (by omega)
      exact ⟨_, _, _, _, by omega, ⟨lo', (lo' + hi') / 2, _, _, _, _, _, _, rfl, rfl, rfl, by omega, by rw [← hbs, bs_left hlt hc], rfl, rfl, by rw [List.length_append, List.length_singleton]; omega, rfl⟩, S⟩
  · have hlt : ¬ lo' < hi' := by simpa using hb
    repeat walk_at "m"
    rw [bs_done hlt] at hbs
    subst hbs
    exact H _ _ _ (fun b o hb e => S.keep _ _ ((Heap.hide_ne h₀ hb).trans e)) (S.at (.head _)) (by omega)

open PySem PySem.W PySem.Calls PyProof.Rows
set_option Elab.async false
set_option maxRecDepth 100000

def riseBad (ns : List Int) : List Int := ((List.range (ns.length - 1)).filter (fun i => decide (ns.getD (i + 1) 0 ≤ ns.getD i 0))).map (fun (i : Nat) => 1 + (i : Int))

theorem rises1 {prog w} {A : Around} {h₀ : Heap} {a : Addr} {xs : List Value} {ns : List Int} {Q : Value → Heap → Prop}
    (wd : Wd (K1 w) h₀) (hA : Ok A 2) (hl : h₀.IsList a xs.toArray) (hx : IntsAre xs ns) (hlen : ns.length ≤ 1000)
    (H : ∀ h', Ext h₀ h' → Q (.bool (decide (riseBad ns = []))) h') :
    Wp (model prog w) A (call (.ref 61) [.ref a] []) Q h₀ := by
  have hxl := hx.length
  refine Wp_enter (K := K1 w) ["numbers"] [("numbers", .ref a)] [some (.ref a)]
    wd (Ext.refl h₀) (N := []) (by simp) (by simp) hA (by rfl) (by rfl) (fun S => by rfl) (by rfl) (by rfl) (by rfl) (by decide) ?_
  intro e h hsc hext hno hA' S
  repeat walk_at "m"
  refine Wp_ListComp S hsc (by rfl) (by decide) (by rfl) ?_
  repeat walk_at "m"
  refine Wp_len_list (isListExt hl S.keep) (by omega) fun t => ?_
  repeat walk_at "m"
  refine Wp_iter_range (S.at (.head _)) (small_of (by omega) (by omega) (by omega) (by omega)) fun I h F => ?_
  replace S := F.st S; clear F
  have hn : ((xs.length : Int) - 1).toNat = ns.length - 1 := by omega
  rw [hn] at S
  refine CompGoal.sel S hA'.hd trivial (by rw [sizeLine_eq]; show ns.length - 1 ≤ _; omega) [("numbers", .ref a)] (fun i => decide (ns.getD (i + 1) 0 ≤ ns.getD i 0)) (fun i y => ∃ t, y = .int (1 + (i : Int)) t) (by rfl)
    (.cons (S.capVar (kindOf_of hsc (by rfl)) (by walk_at "at2")) .nil) ?_ ?_ ?_
  · intro cenv g' D ys i v h hsc' hg hN hi hv S
    have hi : i < ns.length - 1 := hi
    obtain ⟨t, rfl⟩ := hv
    obtain ⟨t1, hv1⟩ := intsAt hx (i := i) (by omega)
    obtain ⟨t2, hv2⟩ := intsAt hx (i := i + 1) (by omega)
    refine Wp_tests_one ?_
    repeat walk_at "m"
    refine Wp_item_list (isListExt (isListExt hl hg) S.keep) (by omega) (show xs[((1 : Int) + i - 1).toNat]? = _ by rw [show ((1 : Int) + i - 1).toNat = i by omega]; exact hv1) (by omega) ?_
    repeat walk_at "m"
    refine Wp_item_list (isListExt (isListExt hl hg) S.keep) (by omega) (show xs[((1 : Int) + i).toNat]? = _ by rw [show ((1 : Int) + i).toNat = i + 1 by omega]; exact hv2) (by omega) ?_
    repeat walk_at "m"
    exact ⟨rfl, S⟩
  · intro cenv g' D ys i v h hsc' hg hN hi hv hp S
    obtain ⟨t, rfl⟩ := hv
    repeat walk_at "m"
    exact ⟨⟨_, rfl⟩, S⟩
  · intro ys D h hP S
    have hI := Paired.ints (f := fun (i : Nat) => 1 + (i : Int)) hP
    repeat walk_at "m"
    refine Wp_eq_ints hA' (S.at (.tail _ (.head _))).isList (S.at (.head _)).isList hI .nil ?_
    exact H _ S.keep

open PySem PySem.W PySem.Calls PyProof.Rows
set_option Elab.async false
set_option maxRecDepth 100000

/-- the table of the longest never-falling runs, from below -/
def NF (ns ms : List Int) : Prop := ms.length ≤ ns.length ∧ ∀ i, i < ms.length → 1 ≤ ms.getD i 0 ∧ ∀ j, j < i → ns.getD j 0 ≤ ns.getD i 0 → ms.getD j 0 + 1 ≤ ms.getD i 0

theorem nf1 {prog w} {A : Around} {h₀ : Heap} {a : Addr} {xs : List Value} {ns : List Int} {Q : Value → Heap → Prop}
    (wd : Wd (K1 w) h₀) (hA : Ok A 2) (hl : h₀.IsList a xs.toArray) (hx : IntsAre xs ns) (hlen : ns.length ≤ 1000)
    (H : ∀ m ms t h', Ext h₀ h' → NF ns ms → ms.length = ns.length → 0 ≤ m → (∀ x ∈ ms, x ≤ m) → Q (.int m t) h') :
    Wp (model prog w) A (call (.ref 56) [.ref a] []) Q h₀ := by
  have hxl := hx.length
  refine Wp_enter (K := K1 w) ["part", "sizes", "i"] [("part", .ref a)] [some (.ref a), none, none]
    wd (Ext.refl h₀) (N := []) (by simp) (by simp) hA (by rfl) (by rfl) (fun S => by rfl) (by rfl) (by rfl) (by rfl) (by decide) ?_
  intro e h hsc hext hno hA' S
  repeat walk_at "m"
  refine Wp_len_list (isListExt hl S.keep) (by omega) fun t => ?_
  repeat walk_at "m"
  rw [hxl] at S
  refine Wp_iter_range0 (S.at (.head _)) (by omega) fun I h F => ?_
  replace S := F.st S; clear F
  rename_i sz _ _ _ _
  replace S := S.sub (N' := [(I, (Src.rng 0 ns.length).cn 0), (sz, .list [])]) (by walk_at "sub")
  refine Cp_for (.rng 0 ns.length) (fun i g vals N => h₀ = g ∧ ∃ ys ms oi, vals = [some (.ref a), some (.ref sz), oi] ∧ N = [(sz, .list ys)] ∧ IntsAre ys ms ∧ NF ns ms ∧ ms.length = i) hA'.hd S
    ⟨rfl, [], [], none, rfl, rfl, .nil, ⟨Nat.zero_le _, fun i hi => absurd hi (Nat.not_lt_zero _)⟩, rfl⟩ (fun _ _ _ _ _ _ _ => trivial) ?_ ?_
  · clear S
    rintro i v g vals N h hi hv ⟨rfl, ys, ms, oi, rfl, rfl, hys, hnf, hms⟩ S
    have hi : i < ns.length := hi
    obtain ⟨t, rfl⟩ := hv
    simp only [Int.zero_add]
    have hyl := hys.length
    repeat walk_at "m"
    refine ⟨sz, ys, rfl, S.at (.tail _ (.head _)), ?_⟩
    repeat walk_at "m"
    refine Wp_ListComp S hsc (by rfl) (by decide) (by rfl) ?_
    repeat walk_at "m"
    refine Wp_iter_range0 (S.at (.head _)) (by omega) fun I₂ h F => ?_
    replace S := F.st S; clear F
    refine CompGoal.sel S hA'.hd trivial (by rw [sizeLine_eq]; show i ≤ _; omega) [("sizes", .ref sz), ("part", .ref a), ("i", .int i _)] (fun j => decide (ns.getD j 0 ≤ ns.getD i 0)) (fun j y => ∃ t, y = .int (ms.getD j 0) t) (by rfl)
      (.cons (S.capVar (kindOf_of hsc (by rfl)) (.tail .head)) (.cons (S.capVar (kindOf_of hsc (by rfl)) .head) (.cons (S.capVar (kindOf_of hsc (by rfl)) (.tail (.tail .head))) .nil))) ?_ ?_ ?_
    · intro cenv g' D zs j v h hsc' hg hN hj hv S
      have hj : j < i := hj
      obtain ⟨t, rfl⟩ := hv
      simp only [Int.zero_add] at S ⊢
      obtain ⟨t1, hv1⟩ := intsAt hx (i := j) (by omega)
      obtain ⟨t2, hv2⟩ := intsAt hx (i := i) (by omega)
      refine Wp_tests_one ?_
      repeat walk_at "m"
      refine Wp_item_list (isListExt (isListExt hl hg) S.keep) (by omega) hv1 (by omega) ?_
      repeat walk_at "m"
      refine Wp_item_list (isListExt (isListExt hl hg) S.keep) (by omega) hv2 (by omega) ?_
      repeat walk_at "m"
      exact ⟨rfl, S⟩
    · intro cenv g' D zs j v h hsc' hg hN hj hv hp S
      have hj : j < i := hj
      obtain ⟨t, rfl⟩ := hv
      simp only [Int.zero_add] at S ⊢
      obtain ⟨t1, hv1⟩ := intsAt hys (i := j) (by omega)
      repeat walk_at "m"
      refine Wp_item_list (isListExt (hN (sz, .list ys) (by walk_at "mem")).isList S.keep) (by omega) hv1 (by omega) ?_
      exact ⟨⟨_, rfl⟩, S⟩
    · intro zs D h hP S
      have hI := Paired.ints (f := fun j => ms.getD j 0) hP
      have hzl := hI.length
      have hfl := List.length_filter_le (fun j => decide (ns.getD j 0 ≤ ns.getD i 0)) (List.range i)
      rw [List.length_map] at hzl
      rw [List.length_range] at hfl
      repeat walk_at "m"
      refine Wp_addLists (S.at (by walk_at "mem")).isList (S.at (.head _)).isList (by rw [sizeLine_eq]; show 1 + zs.length ≤ _; have : (Src.rng 0 i).len = i := rfl; rw [this] at hzl; omega) fun D' h F => ?_
      replace S := F.st S; clear F
      repeat walk_at "m"
      refine Wp_max hA'.hd (S.at (.head _)).isList (IntsAre.append (.cons 0 _ .nil) hI) (by simp) fun m t h hext hm hmax => ?_
      replace S := S.grow hext
      repeat walk_at "m"
      refine Wp_append S (D := sz) (ys := ys) (by walk_at "mem") (by walk_at "lput") (by rw [sizeLine_eq]; omega) fun h S => ⟨rfl, ?_⟩
      repeat walk_at "m"
      refine ⟨h₀, _, _, ⟨rfl, _, ms ++ [1 + m], _, rfl, rfl, IntsAre.append hys (.cons _ _ .nil), ?_, by rw [List.length_append, List.length_singleton, hms]⟩, S.sub (by walk_at "sub")⟩
      have hml : ∀ k, k < ms.length → (ms ++ [1 + m]).getD k 0 = ms.getD k 0 := fun k hk => by simp [List.getD_eq_getElem?_getD, List.getElem?_append_left hk]
      have hme : (ms ++ [1 + m]).getD ms.length 0 = 1 + m := by simp [List.getD_eq_getElem?_getD]
      have hm0 : 0 ≤ m := hmax 0 (by simp)
      refine ⟨by rw [List.length_append, List.length_singleton]; omega, fun k hk => ?_⟩
      rw [List.length_append, List.length_singleton] at hk
      by_cases hkm : k < ms.length
      · rw [hml k hkm]
        refine ⟨(hnf.2 k hkm).1, fun j hj hle => ?_⟩
        rw [hml j (by omega)]
        exact (hnf.2 k hkm).2 j hj hle
      · have : k = ms.length := by omega
        subst this
        rw [hme]
        refine ⟨by omega, fun j hj hle => ?_⟩
        rw [hml j hj]
        have := hmax (ms.getD j 0) (List.mem_append_right _ (List.mem_map.mpr ⟨j, List.mem_filter.mpr ⟨List.mem_range.mpr (by show j < i; omega), by rw [hms] at hle; simpa using hle⟩, rfl⟩))
        omega
  · rintro g vals N h ⟨rfl, ys, ms, oi, rfl, rfl, hys, hnf, hms⟩ S
    have hms : ms.length = ns.length := hms
    have hyl := hys.length
    repeat walk_at "m"
    refine Wp_addLists (S.at (.head _)).isList (S.at (by walk_at "mem")).isList (by rw [sizeLine_eq]; show 1 + ys.length ≤ _; omega) fun D' h F => ?_
    replace S := F.st S; clear F
    repeat walk_at "m"
    refine Wp_max hA'.hd (S.at (.head _)).isList (IntsAre.append (.cons 0 _ .nil) hys) (by simp) fun m t h hext hm hmax => ?_
    exact H m ms t h ((S.grow hext).keep) hnf hms (hmax 0 (by simp)) (fun x hx => hmax x (by simp [hx]))

open PySem PySem.W PySem.Calls PyProof.Rows
set_option Elab.async false
set_option maxRecDepth 100000

theorem ints_set : ∀ {vs : List Value} {ns : List Int}, IntsAre vs ns → ∀ (i : Nat) (n : Int) (t : Tok), IntsAre (vs.set i (.int n t)) (ns.set i n)
  | _, _, .nil, _, _, _ => .nil
  | _, _, .cons _ _ r, 0, n, t => .cons n t r
  | _, _, .cons m u r, i + 1, n, t => .cons m u (ints_set r i n t)
theorem row1 {prog w} {A : Around} {h₀ : Heap} {a : Addr} {xs : List Value} {ns : List Int} {Q : Value → Heap → Prop}
    (wd : Wd (K1 w) h₀) (hA : Ok A 2) (hl : h₀.IsList a xs.toArray) (hx : IntsAre xs ns) (hlen : ns.length ≤ 63)
    (H : ∀ D h' ys ms, Ext h₀ h' → h₀.get? D = none → IsAt h' D (.ilist ys) → IntsAre ys ms → 6 ≤ ms.length → ms.length ≤ 12 → Q (.ref D) h') :
    Wp (model prog w) A (call (.ref 37) [.ref a] []) Q h₀ := by
  have hxl := hx.length
  refine Wp_enter (K := K1 w) ["script", "numbers", "mode", "row", "k"] [("script", .ref a)] [some (.ref a), none, none, none, none]
    wd (Ext.refl h₀) (N := []) (by simp) (by simp) hA (by rfl) (by rfl) (fun S => by rfl) (by rfl) (by rfl) (by rfl) (by decide) ?_
  intro e h hsc hext hno hA' S
  repeat walk_at "m"
  refine Wp_list_list (isListExt hl S.keep) (by rw [sizeLine_eq]; omega) fun D h F => ?_
  replace S := F.st S; clear F
  repeat walk_at "m"
  refine Wp_addLists (S.at (by walk_at "mem")).isList (S.at (.head _)).isList (by rw [sizeLine_eq]; simp; omega) fun D₂ h F => ?_
  replace S := F.st S; clear F
  repeat walk_at "m"
  intro sl h F
  replace S := F.st S; clear F
  refine Wp_item_slice (S.at (.head _)) (S.at (.tail _ (.head _))).isList .none (.int _ _) (by rw [sizeLine_eq]; simp; omega) fun nb h F => ?_
  replace S := F.st S; clear F
  rw [show (12 : Int) = ((12 : Nat) : Int) from rfl, pick_upto] at S
  obtain ⟨vs, S, hI⟩ := S.listInts (ms := List.take 12 (ns ++ [7, 3, 9, 1, 8, 2])) (IntsAre.take (IntsAre.append hx (.cons _ _ (.cons _ _ (.cons _ _ (.cons _ _ (.cons _ _ (.cons _ _ .nil))))))) 12)
  have hm1 : 6 ≤ (List.take 12 (ns ++ [7, 3, 9, 1, 8, 2])).length := by simp; omega
  have hm2 : (List.take 12 (ns ++ [7, 3, 9, 1, 8, 2])).length ≤ 12 := by simp; omega
  generalize hms : List.take 12 (ns ++ [7, 3, 9, 1, 8, 2]) = ms at hI hm1 hm2
  have hvl := hI.length
  replace S := S.sub (N' := [(nb, .list vs)]) (by walk_at "sub")
  repeat walk_at "m"
  refine Wp_sum hA'.hd (isListExt hl S.keep) hx fun t h hext => ?_
  replace S := S.grow hext
  clear hext
  repeat walk_at "m"
  refine Wp_split (fun hc => ?_) (fun hc => ?_)
  · repeat walk_at "m"
    refine Wp_ListComp S hsc (by rfl) (by decide) (by rfl) ?_
    repeat walk_at "m"
    refine Wp_iter_list (S.at (.head _)).isList fun I h F => ?_
    replace S := F.st S; clear F
    refine CompGoal.sel (src := .lst nb vs) S hA'.hd (S.at (.tail _ (.head _))).isList (by rw [sizeLine_eq]; show vs.length ≤ _; omega) [] (fun _ => true) (fun i y => ∃ t, y = .int ((ms.getD i 0).fmod 5) t) (by rfl) .nil ?_ ?_ ?_
    · intro cenv g' D ys i v h hsc' hg hN hi hv S
      refine Wp_tests_nil ⟨rfl, S⟩
    · intro cenv g' D ys i v h hsc' hg hN hi hv hp S
      have hi : i < vs.length := hi
      obtain ⟨t, hv'⟩ := intsAt hI (i := i) (by omega)
      have hv : vs[i]? = some v := hv
      rw [hv] at hv'; cases hv'
      repeat walk_at "m"
      exact ⟨⟨_, rfl⟩, S⟩
    · intro ys D h hP S
      have hI' := Paired.ints (f := fun i => (ms.getD i 0).fmod 5) hP
      have hL : (List.filter (fun _ => true) (List.range (Src.lst nb vs).len)).length = ms.length := by rw [List.filter_eq_self.mpr (fun _ _ => rfl), List.length_range]; exact hvl
      refine H D h ys _ S.keep ?_ (S.at (.head _)).weakL hI' (by rw [List.length_map, hL]; exact hm1) (by rw [List.length_map, hL]; exact hm2)
      exact (S.news _ (.head _)).2.2.1
  · repeat walk_at "m"
    refine Wp_split (fun hc => ?_) (fun hc => ?_)
    · repeat walk_at "m"
      exact H nb h vs ms S.keep (S.news _ (.head _)).2.2.1 (S.at (.head _)).weakL hI hm1 hm2
    · repeat walk_at "m"
      refine Wp_sorted (S.at (.head _)).isList hI (by omega) fun D h ys zs F hy hperm _ => ?_
      replace S := (F.st S).weakL; clear F
      have hzl := hperm.length_eq
      have hyl := hy.length
      repeat walk_at "m"
      refine Wp_len_list (S.at (.head _)).isIList (by omega) fun t => ?_
      repeat walk_at "m"
      refine Wp_range3 (by decide) (by decide) fun r h F => ?_
      replace S := F.st S; clear F
      have hsm : Builtin.Range.small 1 (ys.length : Int) 4 = true ∧ Builtin.Range.rangeSize 1 (ys.length : Int) 4 = (((ys.length - 2) / 4 + 1 : Nat) : Int) := by
        have : ys.length = 6 ∨ ys.length = 7 ∨ ys.length = 8 ∨ ys.length = 9 ∨ ys.length = 10 ∨ ys.length = 11 ∨ ys.length = 12 := by omega
        rcases this with e | e | e | e | e | e | e <;> rw [e] <;> exact ⟨by decide, by decide⟩
      refine Wp_iter_range3 (S.at (.head _)) hsm.1 hsm.2 fun I h F => ?_
      replace S := F.st S; clear F
      replace S := S.sub (N' := [(I, (Src.rngs 1 4 ((ys.length - 2) / 4 + 1)).cn 0), (D, .ilist ys), (nb, .list vs)]) (by walk_at "sub")
      generalize hL : ys.length = L at S hyl
      refine Cp_for (.rngs 1 4 ((L - 2) / 4 + 1)) (fun i g vals N => h₀ = g ∧ ∃ ys zs o k, vals = [some (.ref a), some (.ref nb), o, some (.ref D), k] ∧ N = [(D, .ilist ys), (nb, .list vs)] ∧ IntsAre ys zs ∧ zs.length = L) hA'.hd S
        ⟨rfl, ys, zs, _, _, rfl, rfl, hy, hyl.symm⟩ (fun _ _ _ _ _ _ _ => trivial) ?_ ?_
      · clear S
        rintro i v g vals N h hi hv ⟨rfl, ys, zs, o, k, rfl, rfl, hy, hzl'⟩ S
        have hi : i < (L - 2) / 4 + 1 := hi
        obtain ⟨t, rfl⟩ := hv
        have hyl' := hy.length
        repeat walk_at "m"
        refine Wp_mul (IntMulOk.of_right (by decide)) fun t => ?_
        repeat walk_at "m"
        refine Wp_len_list (S.at (.tail _ (.head _))).isIList (by omega) fun t => ?_
        rw [hyl', hzl']
        refine Wp_mod (by omega) fun t => ?_
        obtain ⟨f1, f2⟩ := fmod_lt (a := (1 + (i : Int) * 4) * 5) (L := L) (by omega)
        obtain ⟨tv, hv⟩ := intsAt hI (i := ((1 + (i : Int) * 4) * 5).fmod L |>.toNat) (by omega)
        refine Wp_item_list (S.at (by walk_at "mem")).isList f1 hv (by omega) ?_
        repeat walk_at "m"
        refine Wp_setItem S (D := D) (xs := ys) (.inr (by walk_at "mem")) (by walk_at "lput") (by omega) (by omega) (by omega) fun h S => ?_
        repeat walk_at "m"
        refine ⟨h₀, _, _, ⟨rfl, _, zs.set (1 + (i : Int) * 4).toNat (ms.getD (((1 + (i : Int) * 4) * 5).fmod L).toNat 0), _, _, rfl, rfl, ?_, by rw [List.length_set]; exact hzl'⟩, S⟩
        exact ints_set hy _ _ _
      · rintro g vals N h ⟨rfl, ys, zs, o, k, rfl, rfl, hy, hzl'⟩ S
        repeat walk_at "m"
        exact H D h ys zs S.keep (S.news _ (.head _)).2.2.1 (S.at (.head _)) hy (by omega) (by omega)

set_option Elab.async false

theorem bs_ge (R : Nat → Bool) : ∀ (n lo hi : Nat), hi - lo ≤ n → lo ≤ bs R lo hi := by
  intro n
  induction n with
  | zero => intro lo hi h; rw [bs_done (by omega)]; exact Nat.le_refl _
  | succ n ih =>
    intro lo hi h
    by_cases hl : lo < hi
    · cases r : R ((lo + hi) / 2) with
      | true => rw [bs_right hl r]; have := ih ((lo + hi) / 2 + 1) hi (by omega); omega
      | false => rw [bs_left hl r]; exact ih lo _ (by omega)
    · rw [bs_done hl]; exact Nat.le_refl _
theorem le_bs (R : Nat → Bool) (lo hi : Nat) : lo ≤ bs R lo hi := bs_ge R _ lo hi (Nat.le_refl _)
theorem bs_le' (R : Nat → Bool) : ∀ (n lo hi : Nat), hi - lo ≤ n → lo ≤ hi → bs R lo hi ≤ hi := by
  intro n
  induction n with
  | zero => intro lo hi h h'; rw [bs_done (by omega)]; exact h'
  | succ n ih =>
    intro lo hi h h'
    by_cases hl : lo < hi
    · cases r : R ((lo + hi) / 2) with
      | true => rw [bs_right hl r]; exact ih _ hi (by omega) (by omega)
      | false => rw [bs_left hl r]; have := ih lo ((lo + hi) / 2) (by omega) (by omega); omega
    · rw [bs_done hl]; exact h'
theorem bs_le (R : Nat → Bool) {lo hi : Nat} (h : lo ≤ hi) : bs R lo hi ≤ hi := bs_le' R _ lo hi (Nat.le_refl _) h

/-- what is asked lies in the stretch -/
theorem bs_congr {R R' : Nat → Bool} : ∀ (n lo hi : Nat), hi - lo ≤ n → (∀ i, lo ≤ i → i < hi → R i = R' i) → bs R lo hi = bs R' lo hi := by
  intro n
  induction n with
  | zero => intro lo hi h _; rw [bs_done (by omega), bs_done (by omega)]
  | succ n ih =>
    intro lo hi h e
    by_cases hl : lo < hi
    · have em := e ((lo + hi) / 2) (by omega) (by omega)
      cases r : R ((lo + hi) / 2) with
      | true => rw [bs_right hl r, bs_right hl (em ▸ r)]; exact ih _ hi (by omega) (fun i h1 h2 => e i (by omega) h2)
      | false => rw [bs_left hl r, bs_left hl (em ▸ r)]; exact ih lo _ (by omega) (fun i h1 h2 => e i h1 (by omega))
    · rw [bs_done hl, bs_done hl]
theorem bs_mono {R R' : Nat → Bool} : ∀ (n lo hi : Nat), hi - lo ≤ n → lo ≤ hi → (∀ i, lo ≤ i → i < hi → R i = true → R' i = true) → bs R lo hi ≤ bs R' lo hi := by
  intro n
  induction n with
  | zero => intro lo hi h _ _; rw [bs_done (by omega), bs_done (by omega)]; exact Nat.le_refl _
  | succ n ih =>
    intro lo hi h hle e
    by_cases hl : lo < hi
    · cases r : R ((lo + hi) / 2) with
      | true => rw [bs_right hl r, bs_right hl (e _ (by omega) (by omega) r)]; exact ih _ hi (by omega) (by omega) (fun i h1 h2 => e i (by omega) h2)
      | false =>
        rw [bs_left hl r]
        cases r' : R' ((lo + hi) / 2) with
        | true =>
          rw [bs_right hl r']
          have h1 := bs_le R (lo := lo) (hi := (lo + hi) / 2) (by omega)
          have h2 := le_bs R' ((lo + hi) / 2 + 1) hi
          omega
        | false => rw [bs_left hl r']; exact ih lo _ (by omega) (by omega) (fun i h1 h2 => e i h1 (by omega))
    · rw [bs_done hl, bs_done hl]; exact Nat.le_refl _
theorem bs_past {R R' : Nat → Bool} : ∀ (n lo hi i : Nat), hi - lo ≤ n → (∀ j, lo ≤ j → j < hi → R j = true → R' j = true) → bs R lo hi = i → i < hi → R' i = true → i < bs R' lo hi := by
  intro n
  induction n with
  | zero => intro lo hi i h _ hb hi' _; rw [bs_done (by omega)] at hb; omega
  | succ n ih =>
    intro lo hi i h e hb hi' hr
    have hl : lo < hi := by
      rcases Nat.lt_or_ge lo hi with q | q
      · exact q
      · rw [bs_done (by omega)] at hb; omega
    cases r : R ((lo + hi) / 2) with
    | true =>
      rw [bs_right hl r] at hb
      rw [bs_right hl (e _ (by omega) (by omega) r)]
      exact ih _ hi i (by omega) (fun j h1 h2 => e j (by omega) h2) hb hi' hr
    | false =>
      rw [bs_left hl r] at hb
      cases r' : R' ((lo + hi) / 2) with
      | true =>
        rw [bs_right hl r']
        have h1 := bs_le R (lo := lo) (hi := (lo + hi) / 2) (by omega)
        have h2 := le_bs R' ((lo + hi) / 2 + 1) hi
        omega
      | false =>
        rw [bs_left hl r']
        have h1 := bs_le R (lo := lo) (hi := (lo + hi) / 2) (by omega)
        have hne : i ≠ (lo + hi) / 2 := fun q => by rw [q, r'] at hr; cases hr
        exact ih lo _ i (by omega) (fun j h1 h2 => e j h1 (by omega)) hb (by omega) hr
theorem bs_before {R R' : Nat → Bool} : ∀ (n lo hi i : Nat), hi - lo ≤ n → (∀ j, lo ≤ j → j < hi → R j = true → R' j = true) → bs R' lo hi = i + 1 → lo ≤ i → R i = false → bs R lo hi ≤ i := by
  intro n
  induction n with
  | zero => intro lo hi i h _ hb hi' _; rw [bs_done (by omega)] at hb; omega
  | succ n ih =>
    intro lo hi i h e hb hi' hr
    have hl : lo < hi := by
      rcases Nat.lt_or_ge lo hi with q | q
      · exact q
      · rw [bs_done (by omega)] at hb; omega
    cases r' : R' ((lo + hi) / 2) with
    | false =>
      have r : R ((lo + hi) / 2) = false := by
        cases r : R ((lo + hi) / 2) with
        | false => rfl
        | true => rw [e _ (by omega) (by omega) r] at r'; cases r'
      rw [bs_left hl r'] at hb
      rw [bs_left hl r]
      exact ih lo _ i (by omega) (fun j h1 h2 => e j h1 (by omega)) hb hi' hr
    | true =>
      rw [bs_right hl r'] at hb
      have h2 := le_bs R' ((lo + hi) / 2 + 1) hi
      cases r : R ((lo + hi) / 2) with
      | false =>
        rw [bs_left hl r]
        have h1 := bs_le R (lo := lo) (hi := (lo + hi) / 2) (by omega)
        omega
      | true =>
        rw [bs_right hl r]
        have hne : i ≠ (lo + hi) / 2 := fun q => by rw [q, r] at hr; cases hr
        exact ih _ hi i (by omega) (fun j h1 h2 => e j (by omega) h2) hb (by omega) hr
theorem bs_le_of {R : Nat → Bool} : ∀ (n lo hi i : Nat), hi - lo ≤ n → lo ≤ i → (∀ j, i ≤ j → j < hi → R j = false) → bs R lo hi ≤ i := by
  intro n
  induction n with
  | zero => intro lo hi i h hl _; rw [bs_done (by omega)]; exact hl
  | succ n ih =>
    intro lo hi i h hli e
    by_cases hl : lo < hi
    · cases r : R ((lo + hi) / 2) with
      | true =>
        rw [bs_right hl r]
        have : (lo + hi) / 2 < i := by
          rcases Nat.lt_or_ge ((lo + hi) / 2) i with q | q
          · exact q
          · rw [e _ q (by omega)] at r; cases r
        exact ih _ hi i (by omega) (by omega) e
      | false => rw [bs_left hl r]; exact ih lo _ i (by omega) hli (fun j h1 h2 => e j h1 (by omega))
    · rw [bs_done hl]; exact hli
theorem lt_bs_of {R : Nat → Bool} : ∀ (n lo hi i : Nat), hi - lo ≤ n → lo ≤ i → i < hi → (∀ j, lo ≤ j → j ≤ i → R j = true) → i < bs R lo hi := by
  intro n
  induction n with
  | zero => intro lo hi i h hl hi' _; omega
  | succ n ih =>
    intro lo hi i h hli hi' e
    have hl : lo < hi := by omega
    cases r : R ((lo + hi) / 2) with
    | true =>
      rw [bs_right hl r]
      have h2 := le_bs R ((lo + hi) / 2 + 1) hi
      rcases Nat.lt_or_ge ((lo + hi) / 2) i with q | q
      · exact ih _ hi i (by omega) (by omega) hi' (fun j h1 h2 => e j (by omega) h2)
      · omega
    | false =>
      rw [bs_left hl r]
      have : i < (lo + hi) / 2 := by
        rcases Nat.lt_or_ge i ((lo + hi) / 2) with q | q
        · exact q
        · rw [e _ (by omega) q] at r; cases r
      exact ih lo _ i (by omega) hli this e

/- the stretch -/
def BR (ns : List Int) (lo hi : Nat) (x : Int) : Nat := bs (fun i => !decide (x < ns.getD i 0)) lo hi
def BL (ns : List Int) (lo hi : Nat) (x : Int) : Nat := bs (fun i => decide (ns.getD i 0 < x)) lo hi

section
variable {ns : List Int} {lo hi : Nat}
theorem BL_eq (x : Int) : BL ns lo hi x = BR ns lo hi (x - 1) := by
  unfold BL BR
  refine bs_congr _ _ _ (Nat.le_refl _) fun i _ _ => ?_
  by_cases h : ns.getD i 0 < x
  · rw [decide_eq_true h, decide_eq_false (by omega)]; rfl
  · rw [decide_eq_false h, decide_eq_true (by omega)]; rfl
theorem BR_mono (hle : lo ≤ hi) {x y : Int} (h : ∀ i, lo ≤ i → i < hi → ns.getD i 0 ≤ x → ns.getD i 0 ≤ y) : BR ns lo hi x ≤ BR ns lo hi y := by
  refine bs_mono _ _ _ (Nat.le_refl _) hle fun i h1 h2 h3 => ?_
  simp only [Bool.not_eq_true', decide_eq_false_iff_not, Int.not_lt] at h3 ⊢
  exact h i h1 h2 h3
theorem BR_ge (x : Int) : lo ≤ BR ns lo hi x := le_bs _ _ _
theorem BR_le (hle : lo ≤ hi) (x : Int) : BR ns lo hi x ≤ hi := bs_le _ hle
theorem BR_none (x : Int) (h : ∀ i, lo ≤ i → i < hi → x < ns.getD i 0) : BR ns lo hi x = lo := by
  have h1 := bs_le_of (R := fun i => !decide (x < ns.getD i 0)) _ lo hi lo (Nat.le_refl _) (Nat.le_refl _) (fun j h1 h2 => by simp only [Bool.not_eq_false', decide_eq_true_eq]; exact h j h1 h2)
  have h2 := BR_ge (ns := ns) (lo := lo) (hi := hi) x
  unfold BR at h2 ⊢
  omega
theorem BR_all (hle : lo ≤ hi) (x : Int) (h : ∀ i, lo ≤ i → i < hi → ns.getD i 0 ≤ x) : BR ns lo hi x = hi := by
  have h2 := BR_le (ns := ns) hle x
  rcases Nat.lt_or_ge lo hi with q | q
  · have h1 := lt_bs_of (R := fun i => !decide (x < ns.getD i 0)) _ lo hi (hi - 1) (Nat.le_refl _) (by omega) (by omega) (fun j h1 h2 => by simp only [Bool.not_eq_true', decide_eq_false_iff_not, Int.not_lt]; exact h j h1 (by omega))
    unfold BR at h2 ⊢
    omega
  · have h3 := BR_ge (ns := ns) (lo := lo) (hi := hi) x
    omega

/-- how many are not above x -/
def cle (sh : List Int) (x : Int) : Nat := (sh.filter fun e => decide (e ≤ x)).length
def clt (sh : List Int) (x : Int) : Nat := (sh.filter fun e => decide (e < x)).length
theorem clt_eq (sh : List Int) (x : Int) : clt sh x = cle sh (x - 1) := by
  unfold clt cle
  congr 2
  funext e
  by_cases h : e < x
  · rw [decide_eq_true h, decide_eq_true (by omega)]
  · rw [decide_eq_false h, decide_eq_false (by omega)]
theorem cle_append (a b : List Int) (x : Int) : cle (a ++ b) x = cle a x + cle b x := by simp [cle]
theorem cle_replicate (n : Nat) (v x : Int) : cle (List.replicate n v) x = if v ≤ x then n else 0 := by
  unfold cle
  rw [List.filter_replicate]
  by_cases h : v ≤ x <;> simp [h]

/-- what the stretch's unlike numbers are -/
structure Unlike (ns : List Int) (lo hi : Nat) (U : List Int) : Prop where
  up : U.Pairwise (· < ·)
  from' : ∀ u ∈ U, ∃ i, lo ≤ i ∧ i < hi ∧ ns.getD i 0 = u
  all : ∀ i, lo ≤ i → i < hi → ns.getD i 0 ∈ U

structure ShInv (ns : List Int) (lo hi : Nat) (U : List Int) (j : Nat) (sh : List Int) (at' : Nat) : Prop where
  len : sh.length + lo = at'
  le : at' ≤ hi
  up : sh.Pairwise (· ≤ ·)
  mem : ∀ e ∈ sh, e ∈ U.take j
  count : ∀ x, cle sh x + lo = min (BR ns lo hi x) at'
  here : at' = if j = 0 then lo else BR ns lo hi (U.getD (j - 1) 0)

theorem ShInv.start (hle : lo ≤ hi) (U : List Int) : ShInv ns lo hi U 0 [] lo :=
  ⟨by simp, hle, .nil, fun _ h => (nomatch h), fun x => by have := BR_ge (ns := ns) (lo := lo) (hi := hi) x; simp [cle]; omega, rfl⟩

theorem getD_mem {U : List Int} {j : Nat} (h : j < U.length) : U.getD j 0 ∈ U := by
  rw [List.getD_eq_getElem?_getD, List.getElem?_eq_getElem h]; exact List.getElem_mem h
theorem getD_lt {U : List Int} (hU : U.Pairwise (· < ·)) {i j : Nat} (hij : i < j) (hj : j < U.length) : U.getD i 0 < U.getD j 0 := by
  have := List.pairwise_iff_getElem.mp hU i j (by omega) hj hij
  rw [List.getD_eq_getElem?_getD, List.getD_eq_getElem?_getD, List.getElem?_eq_getElem hj, List.getElem?_eq_getElem (by omega)]
  exact this
theorem mem_take_getD {U : List Int} {j : Nat} {e : Int} (h : e ∈ U.take j) : ∃ i, i < j ∧ i < U.length ∧ U.getD i 0 = e := by
  obtain ⟨i, hi, rfl⟩ := List.getElem_of_mem h
  rw [List.length_take] at hi
  refine ⟨i, by omega, by omega, ?_⟩
  rw [List.getD_eq_getElem?_getD, List.getElem?_eq_getElem (by omega)]
  simp
theorem mem_getD {U : List Int} {e : Int} (h : e ∈ U) : ∃ i, i < U.length ∧ U.getD i 0 = e := by
  obtain ⟨i, hi, rfl⟩ := List.getElem_of_mem h
  exact ⟨i, hi, by rw [List.getD_eq_getElem?_getD, List.getElem?_eq_getElem hi]; rfl⟩

theorem ShInv.next (hle : lo ≤ hi) {U : List Int} (hU : Unlike ns lo hi U) {j : Nat} {sh : List Int} {at' : Nat} (I : ShInv ns lo hi U j sh at') (hj : j < U.length) :
    at' ≤ BR ns lo hi (U.getD j 0) ∧ BR ns lo hi (U.getD j 0) ≤ hi ∧
      ShInv ns lo hi U (j + 1) (sh ++ List.replicate (BR ns lo hi (U.getD j 0) - at') (U.getD j 0)) (BR ns lo hi (U.getD j 0)) := by
  have hhi := BR_le (ns := ns) hle (U.getD j 0)
  -- below u_j nothing comes behind at'
  have low : ∀ x, x < U.getD j 0 → BR ns lo hi x ≤ at' := fun x hx => by
    rw [I.here]
    split
    · rename_i h0
      refine Nat.le_of_eq (BR_none x fun i h1 h2 => ?_)
      obtain ⟨k, hk, e⟩ := mem_getD (hU.all i h1 h2)
      rw [← e]
      rcases Nat.lt_or_ge 0 k with q | q
      · have := getD_lt hU.up (i := 0) (j := k) q hk
        subst h0; omega
      · have : k = j := by omega
        subst this; exact hx
    · refine BR_mono hle fun i h1 h2 h3 => ?_
      obtain ⟨k, hk, e⟩ := mem_getD (hU.all i h1 h2)
      rw [← e] at h3 ⊢
      rcases Nat.lt_or_ge k j with q | q
      · rcases Nat.lt_or_ge k (j - 1) with q' | q'
        · exact Int.le_of_lt (getD_lt hU.up q' (by omega))
        · have : k = j - 1 := by omega
          subst this; exact Int.le_refl _
      · rcases Nat.lt_or_ge j k with q' | q'
        · have := getD_lt hU.up q' hk; omega
        · have : k = j := by omega
          subst this; omega
  have hat : at' ≤ BR ns lo hi (U.getD j 0) := by
    rw [I.here]
    split
    · exact BR_ge _
    · exact BR_mono hle fun i _ _ h3 => Int.le_trans h3 (Int.le_of_lt (getD_lt hU.up (by omega) hj))
  refine ⟨hat, hhi, ⟨?_, hhi, ?_, ?_, fun x => ?_, ?_⟩⟩
  · rw [List.length_append, List.length_replicate]; have := I.len; omega
  · refine List.pairwise_append.mpr ⟨I.up, List.pairwise_replicate.mpr (.inr (Int.le_refl _)), fun a ha b hb => ?_⟩
    rw [List.eq_of_mem_replicate hb]
    obtain ⟨k, hk, hk', e⟩ := mem_take_getD (I.mem a ha)
    rw [← e]; exact Int.le_of_lt (getD_lt hU.up hk hj)
  · intro e he
    rcases List.mem_append.mp he with q | q
    · have := I.mem e q
      rw [List.take_add_one]; exact List.mem_append_left _ this
    · rw [List.eq_of_mem_replicate q, List.take_add_one, List.getElem?_eq_getElem hj]
      refine List.mem_append_right _ ?_
      simp [List.getD_eq_getElem?_getD, List.getElem?_eq_getElem hj]
  · rw [cle_append, cle_replicate]
    have c := I.count x
    by_cases hx : U.getD j 0 ≤ x
    · rw [if_pos hx]
      have : BR ns lo hi (U.getD j 0) ≤ BR ns lo hi x := BR_mono hle fun i _ _ h3 => Int.le_trans h3 hx
      omega
    · rw [if_neg hx]
      have := low x (by omega)
      omega
  · rw [if_neg (by omega)]; rfl

/-- the whole shadow -/
structure Shadow (ns : List Int) (lo hi : Nat) (sh : List Int) : Prop where
  len : sh.length + lo = hi
  up : sh.Pairwise (· ≤ ·)
  right : ∀ x, BR ns lo hi x = lo + cle sh x
  left : ∀ x, BL ns lo hi x = lo + clt sh x
theorem ShInv.done (hle : lo ≤ hi) {U : List Int} (hU : Unlike ns lo hi U) {sh : List Int} {at' : Nat} (I : ShInv ns lo hi U U.length sh at') : at' = hi ∧ Shadow ns lo hi sh := by
  have hat : at' = hi := by
    rw [I.here]
    split
    · rename_i h0
      rcases Nat.lt_or_ge lo hi with q | q
      · have := hU.all lo (Nat.le_refl _) q
        rw [List.length_eq_zero_iff.mp h0] at this; cases this
      · omega
    · refine BR_all hle _ fun i h1 h2 => ?_
      obtain ⟨k, hk, e⟩ := mem_getD (hU.all i h1 h2)
      rw [← e]
      rcases Nat.lt_or_ge k (U.length - 1) with q | q
      · exact Int.le_of_lt (getD_lt hU.up q (by omega))
      · have : k = U.length - 1 := by omega
        subst this; exact Int.le_refl _
  subst hat
  have r : ∀ x, BR ns lo at' x = lo + cle sh x := fun x => by
    have := I.count x
    have := BR_le (ns := ns) hle x
    omega
  exact ⟨rfl, I.len, I.up, r, fun x => by rw [BL_eq, clt_eq]; exact r _⟩
end

set_option Elab.async false

theorem clt_low {sh : List Int} (up : sh.Pairwise (· ≤ ·)) {p : Nat} (hp : p < sh.length) {x : Int} (h : clt sh x ≤ p) : x ≤ sh.getD p 0 := by
  rcases Int.lt_or_le (sh.getD p 0) x with q | q
  · exfalso
    have e1 : clt (sh.take (p + 1)) x = p + 1 := by
      unfold clt
      rw [List.filter_eq_self.mpr, List.length_take]
      · omega
      · intro a ha
        obtain ⟨i, hi, hi', e⟩ := mem_take_getD ha
        rw [← e]
        refine decide_eq_true (Int.lt_of_le_of_lt ?_ q)
        rcases Nat.lt_or_ge i p with r | r
        · have := List.pairwise_iff_getElem.mp up i p hi' hp r
          rw [List.getD_eq_getElem?_getD, List.getD_eq_getElem?_getD, List.getElem?_eq_getElem hp, List.getElem?_eq_getElem hi']
          exact this
        · have : i = p := by omega
          subst this; exact Int.le_refl _
    have e2 : clt sh x = clt (sh.take (p + 1)) x + clt (sh.drop (p + 1)) x := by
      unfold clt; rw [← List.length_append, ← List.filter_append, List.take_append_drop]
    omega
  · exact q
theorem cle_high {sh : List Int} (up : sh.Pairwise (· ≤ ·)) {p : Nat} (hp : p < sh.length) {x : Int} (h : p < cle sh x) : sh.getD p 0 ≤ x := by
  rcases Int.lt_or_le x (sh.getD p 0) with q | q
  · exfalso
    have e1 : cle (sh.drop p) x = 0 := by
      unfold cle
      rw [List.filter_eq_nil_iff.mpr]
      · rfl
      · intro a ha
        obtain ⟨i, hi, e⟩ := List.getElem_of_mem ha
        rw [List.length_drop] at hi
        rw [List.getElem_drop] at e
        have : sh.getD p 0 ≤ a := by
          rw [← e, List.getD_eq_getElem?_getD, List.getElem?_eq_getElem hp]
          rcases Nat.lt_or_ge p (p + i) with r | r
          · exact List.pairwise_iff_getElem.mp up p (p + i) hp (by omega) r
          · have : i = 0 := by omega
            subst this; exact Int.le_refl _
        simp only [decide_eq_true_eq]; omega
    have e2 : cle sh x = cle (sh.take p) x + cle (sh.drop p) x := by
      unfold cle; rw [← List.length_append, ← List.filter_append, List.take_append_drop]
    have e3 : cle (sh.take p) x ≤ p := by
      unfold cle
      exact Nat.le_trans (List.length_filter_le _ _) (by rw [List.length_take]; omega)
    omega
  · exact q

section
variable {ns : List Int} {lo hi : Nat} {sh : List Int}
theorem Shadow.at' (S : Shadow ns lo hi sh) {k : Nat} (hk : lo + k < hi) {x : Int} (h1 : clt sh x ≤ k) (h2 : k < cle sh x) : x = sh.getD k 0 := by
  have := S.len
  have a := clt_low S.up (p := k) (by omega) h1
  have b := cle_high S.up (p := k) (by omega) h2
  omega
theorem Shadow.leftEnd (S : Shadow ns lo hi sh) {k : Nat} (hk : lo + k < hi) (h : BL ns lo hi (ns.getD (lo + k) 0) = lo + k) : ns.getD (lo + k) 0 = sh.getD k 0 := by
  refine S.at' hk ?_ ?_
  · have := S.left (ns.getD (lo + k) 0); omega
  · have h1 := bs_past (R := fun i => decide (ns.getD i 0 < ns.getD (lo + k) 0)) (R' := fun i => !decide (ns.getD (lo + k) 0 < ns.getD i 0)) _ lo hi (lo + k) (Nat.le_refl _)
      (fun j _ _ hj => by simp only [decide_eq_true_eq, Bool.not_eq_true', decide_eq_false_iff_not] at hj ⊢; omega) h hk (by simp)
    have h2 := S.right (ns.getD (lo + k) 0)
    unfold BR at h2
    omega
theorem Shadow.rightEnd (S : Shadow ns lo hi sh) {k : Nat} (hk : lo + k < hi) (h : BR ns lo hi (ns.getD (lo + k) 0) = lo + k + 1) : ns.getD (lo + k) 0 = sh.getD k 0 := by
  refine S.at' hk ?_ ?_
  · have h1 := bs_before (R := fun i => decide (ns.getD i 0 < ns.getD (lo + k) 0)) (R' := fun i => !decide (ns.getD (lo + k) 0 < ns.getD i 0)) _ lo hi (lo + k) (Nat.le_refl _)
      (fun j _ _ hj => by simp only [decide_eq_true_eq, Bool.not_eq_true', decide_eq_false_iff_not] at hj ⊢; omega) h (by omega) (by simp)
    have h2 := S.left (ns.getD (lo + k) 0)
    unfold BL at h2
    omega
  · have := S.right (ns.getD (lo + k) 0); omega
theorem Shadow.leftRise (S : Shadow ns lo hi sh) {k k' : Nat} (hk : k < k') (h : BL ns lo hi (ns.getD (lo + k) 0) = lo + k) (h' : BL ns lo hi (ns.getD (lo + k') 0) = lo + k') : ns.getD (lo + k) 0 < ns.getD (lo + k') 0 := by
  rcases Int.lt_or_le (ns.getD (lo + k) 0) (ns.getD (lo + k') 0) with q | q
  · exact q
  · have := S.len
    have : BL ns lo hi (ns.getD (lo + k') 0) ≤ BL ns lo hi (ns.getD (lo + k) 0) := by
      rw [BL_eq, BL_eq]; exact BR_mono (by omega) fun i _ _ h3 => by omega
    omega
theorem Shadow.rightRise (S : Shadow ns lo hi sh) {k k' : Nat} (hk : k < k') (h : BR ns lo hi (ns.getD (lo + k) 0) = lo + k + 1) (h' : BR ns lo hi (ns.getD (lo + k') 0) = lo + k' + 1) : ns.getD (lo + k) 0 < ns.getD (lo + k') 0 := by
  rcases Int.lt_or_le (ns.getD (lo + k) 0) (ns.getD (lo + k') 0) with q | q
  · exact q
  · have := S.len
    have : BR ns lo hi (ns.getD (lo + k') 0) ≤ BR ns lo hi (ns.getD (lo + k) 0) := BR_mono (by omega) fun i _ _ h3 => by omega
    omega
end

theorem range_filter_up (p : Nat → Bool) (n : Nat) : ((List.range n).filter p).Pairwise (· < ·) := List.Pairwise.filter _ List.pairwise_lt_range
theorem riseBad_nil {L : List Int} (h : L.Pairwise (· < ·)) : riseBad L = [] := by
  unfold riseBad
  rw [List.filter_eq_nil_iff.mpr]
  · rfl
  · intro i hi
    have hi' : i < L.length - 1 := List.mem_range.mp hi
    have := List.pairwise_iff_getElem.mp h i (i + 1) (by omega) (by omega) (by omega)
    rw [List.getD_eq_getElem?_getD, List.getD_eq_getElem?_getD, List.getElem?_eq_getElem (by omega), List.getElem?_eq_getElem (by omega)]
    simp only [Option.getD_some, decide_eq_true_eq]
    omega
theorem pairwise_map_of {α : Type} {R : Nat → Nat → Prop} {T : α → α → Prop} {f : Nat → α} : ∀ {l : List Nat}, l.Pairwise R → (∀ a ∈ l, ∀ b ∈ l, R a b → T (f a) (f b)) → (l.map f).Pairwise T
  | [], _, _ => .nil
  | a :: r, h, e => by
    obtain ⟨h1, h2⟩ := List.pairwise_cons.mp h
    rw [List.map_cons]
    refine List.pairwise_cons.mpr ⟨fun y hy => ?_, pairwise_map_of h2 fun a ha b hb => e a (.tail _ ha) b (.tail _ hb)⟩
    obtain ⟨b, hb, rfl⟩ := List.mem_map.mp hy
    exact e a (.head _) b (.tail _ hb) (h1 b hb)

/-- places of a list that rises give a run of the table -/
theorem nf_run {ns ms : List Int} (h : NF ns ms) (hl : ms.length = ns.length) : ∀ (K : List Nat), K.Pairwise (· < ·) → (∀ k ∈ K, k < ns.length) → (∀ a ∈ K, ∀ b ∈ K, a < b → ns.getD a 0 ≤ ns.getD b 0) →
    ∀ k, K.getLast? = some k → (K.length : Int) ≤ ms.getD k 0 := by
  intro K
  induction hn : K.length generalizing K with
  | zero => intro _ _ _ k hk; rw [List.length_eq_zero_iff.mp hn] at hk; cases hk
  | succ n ih =>
    intro up hlt hle k hk
    have hne : K ≠ [] := fun q => by rw [q] at hn; cases hn
    have e1 : K = K.dropLast ++ [K.getLast hne] := (List.dropLast_concat_getLast hne).symm
    have hk' : K.getLast hne = k := by rw [List.getLast?_eq_some_getLast hne] at hk; exact Option.some.inj hk
    rw [hk'] at e1
    have hkm : k ∈ K := hk' ▸ List.getLast_mem hne
    have sub : ∀ a ∈ K.dropLast, a ∈ K := fun a ha => List.dropLast_subset _ ha
    rw [e1] at up
    obtain ⟨u1, _, u3⟩ := List.pairwise_append.mp up
    cases hl' : K.dropLast.getLast? with
    | none =>
      have : K.dropLast = [] := List.getLast?_eq_none_iff.mp hl'
      have hn1 : n = 0 := by have := congrArg List.length this; rw [List.length_dropLast, hn] at this; simpa using this
      subst hn1
      exact (h.2 k (by rw [hl]; exact hlt k hkm)).1
    | some a =>
      have ham : a ∈ K.dropLast := List.mem_of_getLast? hl'
      have := ih K.dropLast (by rw [List.length_dropLast, hn]; rfl) u1 (fun b hb => hlt b (sub b hb)) (fun b hb c hc => hle b (sub b hb) c (sub c hc)) a hl'
      have hak := u3 a ham k (.head _)
      have := (h.2 k (by rw [hl]; exact hlt k hkm)).2 a hak (hle a (sub a ham) k hkm hak)
      omega
theorem nf_bound {ns ms : List Int} {m : Int} (h : NF ns ms) (hl : ms.length = ns.length) (h0 : 0 ≤ m) (hm : ∀ x ∈ ms, x ≤ m) (K : List Nat) (up : K.Pairwise (· < ·)) (hlt : ∀ k ∈ K, k < ns.length) (hle : ∀ a ∈ K, ∀ b ∈ K, a < b → ns.getD a 0 ≤ ns.getD b 0) : (K.length : Int) ≤ m := by
  cases hk : K.getLast? with
  | none => rw [List.getLast?_eq_none_iff.mp hk]; simpa using h0
  | some k =>
    have h1 := nf_run h hl K up hlt hle k hk
    have hkm : k < ms.length := by rw [hl]; exact hlt k (List.mem_of_getLast? hk)
    have h2 := hm _ (getD_mem hkm)
    omega

section
variable {ns : List Int} {lo hi : Nat} {sh : List Int}
/-- the shadow is the stretch if and only if the stretch is sorted -/
theorem Shadow.sorted (S : Shadow ns lo hi sh) (hhi : hi ≤ ns.length) {srt : List Int} (hp : srt.Perm ((ns.drop lo).take (hi - lo))) (hs : srt.Pairwise (· ≤ ·)) :
    (decide (sh = (ns.drop lo).take (hi - lo)) == decide ((ns.drop lo).take (hi - lo) = srt)) = true := by
  have hlen := S.len
  have hpl : ((ns.drop lo).take (hi - lo)).length = hi - lo := by rw [List.length_take, List.length_drop]; omega
  have hget : ∀ k, lo + k < hi → ((ns.drop lo).take (hi - lo)).getD k 0 = ns.getD (lo + k) 0 := fun k hk => by
    rw [List.getD_eq_getElem?_getD, List.getElem?_take_of_lt (by omega), List.getElem?_drop, ← List.getD_eq_getElem?_getD]
  have key : sh = (ns.drop lo).take (hi - lo) ↔ (ns.drop lo).take (hi - lo) = srt := by
    constructor
    · intro e
      exact List.Perm.eq_of_pairwise (le := (· ≤ ·)) (fun a b _ _ h1 h2 => by omega) (e ▸ S.up) hs hp.symm
    · intro e
      have up : ((ns.drop lo).take (hi - lo)).Pairwise (· ≤ ·) := by rw [e]; exact hs
      have le : ∀ i j, lo ≤ i → i ≤ j → j < hi → ns.getD i 0 ≤ ns.getD j 0 := fun i j h1 h2 h3 => by
        rcases Nat.lt_or_ge i j with q | q
        · have := List.pairwise_iff_getElem.mp up (i - lo) (j - lo) (by omega) (by omega) (by omega)
          have a := hget (i - lo) (by omega)
          have b := hget (j - lo) (by omega)
          rw [List.getD_eq_getElem?_getD, List.getElem?_eq_getElem (by omega), show lo + (i - lo) = i by omega] at a
          rw [List.getD_eq_getElem?_getD, List.getElem?_eq_getElem (by omega), show lo + (j - lo) = j by omega] at b
          rw [← a, ← b]; exact this
        · have : i = j := by omega
          subst this; exact Int.le_refl _
      refine List.ext_getElem (by omega) fun k h1 h2 => ?_
      have hk : lo + k < hi := by omega
      have e1 : ns.getD (lo + k) 0 = sh.getD k 0 := by
        refine S.at' hk ?_ ?_
        · have h1 := bs_le_of (R := fun i => decide (ns.getD i 0 < ns.getD (lo + k) 0)) _ lo hi (lo + k) (Nat.le_refl _) (by omega) (fun j h1 h2 => by have := le (lo + k) j (by omega) h1 h2; exact decide_eq_false (by omega))
          have h2 := S.left (ns.getD (lo + k) 0)
          unfold BL at h2
          omega
        · have h1 := lt_bs_of (R := fun i => !decide (ns.getD (lo + k) 0 < ns.getD i 0)) _ lo hi (lo + k) (Nat.le_refl _) (by omega) hk (fun j h1 h2 => by have := le j (lo + k) h1 h2 hk; rw [decide_eq_false (by omega)]; rfl)
          have h2 := S.right (ns.getD (lo + k) 0)
          unfold BR at h2
          omega
      have e2 := hget k hk
      rw [List.getD_eq_getElem?_getD, List.getElem?_eq_getElem h2] at e2
      rw [e1, List.getD_eq_getElem?_getD, List.getElem?_eq_getElem h1] at e2
      exact e2.symm
  by_cases h : sh = (ns.drop lo).take (hi - lo)
  · rw [decide_eq_true h, decide_eq_true (key.mp h)]; rfl
  · rw [decide_eq_false h, decide_eq_false (fun q => h (key.mpr q))]; rfl
end

/-- unlike neighbours of a sorted list -/
def uniq (os : List Int) : List Int := ((List.range os.length).filter (fun k => decide (k = 0) || !decide (os.getD (k - 1) 0 = os.getD k 0))).map (fun k => os.getD k 0)
theorem uniq_ok {ns : List Int} {lo hi : Nat} (hhi : hi ≤ ns.length) {os : List Int} (hp : os.Perm ((ns.drop lo).take (hi - lo))) (hs : os.Pairwise (· ≤ ·)) : Unlike ns lo hi (uniq os) := by
  have hpl : ((ns.drop lo).take (hi - lo)).length = hi - lo := by rw [List.length_take, List.length_drop]; omega
  have hol : os.length = hi - lo := hp.length_eq.trans hpl
  have hget : ∀ k, lo + k < hi → ((ns.drop lo).take (hi - lo)).getD k 0 = ns.getD (lo + k) 0 := fun k hk => by
    rw [List.getD_eq_getElem?_getD, List.getElem?_take_of_lt (by omega), List.getElem?_drop, ← List.getD_eq_getElem?_getD]
  have le : ∀ i j, i ≤ j → j < os.length → os.getD i 0 ≤ os.getD j 0 := fun i j h1 h2 => by
    rcases Nat.lt_or_ge i j with q | q
    · have := List.pairwise_iff_getElem.mp hs i j (by omega) h2 q
      rw [List.getD_eq_getElem?_getD, List.getD_eq_getElem?_getD, List.getElem?_eq_getElem h2, List.getElem?_eq_getElem (by omega)]
      exact this
    · have : i = j := by omega
      subst this; exact Int.le_refl _
  refine ⟨?_, ?_, ?_⟩
  · refine pairwise_map_of (range_filter_up _ _) fun a ha b hb hab => ?_
    have hb1 := List.mem_range.mp (List.mem_filter.mp hb).1
    have hb2 := (List.mem_filter.mp hb).2
    simp only [Bool.or_eq_true, decide_eq_true_eq, Bool.not_eq_true', decide_eq_false_iff_not] at hb2
    have h1 := le a (b - 1) (by omega) (by omega)
    have h2 := le (b - 1) b (by omega) hb1
    rcases hb2 with q | q
    · omega
    · omega
  · intro u hu
    obtain ⟨k, hk, rfl⟩ := List.mem_map.mp hu
    have hk1 := List.mem_range.mp (List.mem_filter.mp hk).1
    have := hp.mem_iff.mp (getD_mem hk1)
    obtain ⟨i, hi', e⟩ := mem_getD this
    rw [hpl] at hi'
    exact ⟨lo + i, by omega, by omega, by rw [← hget i (by omega), e]⟩
  · intro i h1 h2
    have hm : ns.getD i 0 ∈ os := by
      refine hp.mem_iff.mpr ?_
      have := hget (i - lo) (by omega)
      rw [show lo + (i - lo) = i by omega] at this
      rw [← this]; exact getD_mem (by omega)
    obtain ⟨k, hk, e⟩ := mem_getD hm
    rw [← e]
    clear e hm
    -- the first place with this number
    induction k with
    | zero => exact List.mem_map.mpr ⟨0, List.mem_filter.mpr ⟨List.mem_range.mpr hk, rfl⟩, rfl⟩
    | succ k ih =>
      by_cases q : os.getD k 0 = os.getD (k + 1) 0
      · rw [← q]; exact ih (by omega)
      · refine List.mem_map.mpr ⟨k + 1, List.mem_filter.mpr ⟨List.mem_range.mpr hk, ?_⟩, rfl⟩
        simp only [Nat.add_sub_cancel, Bool.or_eq_true, decide_eq_true_eq, Bool.not_eq_true', decide_eq_false_iff_not]
        exact .inr q

open PySem PySem.W PySem.Calls PyProof.Rows
set_option Elab.async false
set_option maxRecDepth 100000

theorem isTupleExt {h h' : Heap} {a : Addr} {xs : Array Value} (x : h.IsTuple a xs) (e : Ext h h') : h'.IsTuple a xs := let ⟨o, p, q⟩ := x; ⟨o, e _ _ p, q⟩
theorem ints_rep (n : Nat) (v : Int) (t : Tok) : IntsAre (List.replicate n (.int v t)) (List.replicate n v) := by
  induction n with
  | zero => exact .nil
  | succ n ih => exact .cons v t ih
theorem ints_item {vs : List Value} {ns : List Int} (h : IntsAre vs ns) {j : Nat} {v : Value} (e : vs[j]? = some v) : ∃ d t, v = .int d t := by
  have hj : j < ns.length := by
    obtain ⟨q, _⟩ := List.getElem?_eq_some_iff.mp e
    have := h.length; omega
  obtain ⟨t, ht⟩ := intsAt h hj
  rw [e] at ht; cases ht; exact ⟨_, _, rfl⟩
theorem count_getD (f : Int → Bool) (l : List Int) : ((List.range l.length).filter (fun j => f (l.getD j 0))).length = (l.filter f).length := by
  have e := map_range_getD (fun v => v) l
  rw [List.map_id'] at e
  conv => rhs; rw [← e, List.filter_map, List.length_map]
  rfl

def cntScope : Scope := { kind := .function, names := [(".0", .local), ("e", .local), ("x", .free)], isGenerator := false, isCoroutine := false }

section
variable {prog : Program} {w : World} {A : Around} {K : Frag} {g h : Heap} {env : Env} {vars : List Str} {vals : List (Option Value)} {caps : List (Str × Value)} {N : List (Addr × Cn)}
theorem cnt_lt {I D : Addr} {ss : List Value} {sh : List Int} {x : Int} {tx : Tok} {iter : Expr} {p1 p2 p3 p4 px pos : Pos} {Q : Value → Heap → Prop}
    (S : St K g env vars vals caps ((I, (Src.lst D ss).cn 0) :: N) h) (hA : A.handled = none) (hs : IntsAre ss sh) (hsz : sh.length ≤ 1000) (hD : (D, .list ss) ∈ N) (hx : CapOk env h ("x", .int x tx))
    (H : ∀ ys D' h', ys.length = clt sh x → St K g env vars vals caps ((D', .list ys) :: N) h' → Q (.ref D') h') :
    CompGoal prog w A K env (.Name "e" p1) [⟨.Name "e" px, iter, [.Compare (.Name "e" p2) [.Lt] [.Name "x" p3] p4], 0⟩] cntScope pos (.ref I) Q h := by
  have hsl := hs.length
  refine CompGoal.sel (src := .lst D ss) S hA (S.at (.tail _ hD)).isList (by rw [sizeLine_eq]; show ss.length ≤ _; omega) [("x", .int x tx)] (fun j => decide (sh.getD j 0 < x)) (fun _ _ => True) (by rfl) (.cons hx .nil) ?_ ?_ ?_
  · intro cenv g' D' ys i v h hsc' hg hN hi hv S
    have hi : i < ss.length := hi
    have hv : ss[i]? = some v := hv
    obtain ⟨tv, hv'⟩ := intsAt hs (i := i) (by omega)
    rw [hv] at hv'; cases hv'
    refine Wp_tests_one ?_
    repeat walk_at "m"
    exact ⟨rfl, S⟩
  · intro cenv g' D' ys i v h hsc' hg hN hi hv hp S
    repeat walk_at "m"
    exact ⟨trivial, S⟩
  · intro ys D' h hP S
    refine H ys D' h ?_ S
    have e1 := hP.length
    have e2 := count_getD (fun e => decide (e < x)) sh
    have e3 : (Src.lst D ss).len = sh.length := hsl
    rw [e3] at e1
    unfold clt
    omega
theorem cnt_le {I D : Addr} {ss : List Value} {sh : List Int} {x : Int} {tx : Tok} {iter : Expr} {p1 p2 p3 p4 px pos : Pos} {Q : Value → Heap → Prop}
    (S : St K g env vars vals caps ((I, (Src.lst D ss).cn 0) :: N) h) (hA : A.handled = none) (hs : IntsAre ss sh) (hsz : sh.length ≤ 1000) (hD : (D, .list ss) ∈ N) (hx : CapOk env h ("x", .int x tx))
    (H : ∀ ys D' h', ys.length = cle sh x → St K g env vars vals caps ((D', .list ys) :: N) h' → Q (.ref D') h') :
    CompGoal prog w A K env (.Name "e" p1) [⟨.Name "e" px, iter, [.Compare (.Name "e" p2) [.LtE] [.Name "x" p3] p4], 0⟩] cntScope pos (.ref I) Q h := by
  have hsl := hs.length
  refine CompGoal.sel (src := .lst D ss) S hA (S.at (.tail _ hD)).isList (by rw [sizeLine_eq]; show ss.length ≤ _; omega) [("x", .int x tx)] (fun j => decide (sh.getD j 0 ≤ x)) (fun _ _ => True) (by rfl) (.cons hx .nil) ?_ ?_ ?_
  · intro cenv g' D' ys i v h hsc' hg hN hi hv S
    have hi : i < ss.length := hi
    have hv : ss[i]? = some v := hv
    obtain ⟨tv, hv'⟩ := intsAt hs (i := i) (by omega)
    rw [hv] at hv'; cases hv'
    refine Wp_tests_one ?_
    repeat walk_at "m"
    exact ⟨rfl, S⟩
  · intro cenv g' D' ys i v h hsc' hg hN hi hv hp S
    repeat walk_at "m"
    exact ⟨trivial, S⟩
  · intro ys D' h hP S
    refine H ys D' h ?_ S
    have e1 := hP.length
    have e2 := count_getD (fun e => decide (e ≤ x)) sh
    have e3 : (Src.lst D ss).len = sh.length := hsl
    rw [e3] at e1
    unfold cle
    omega

def pickScope : Scope := { kind := .function, names := [(".0", .local), ("i", .local), ("row", .free)], isGenerator := false, isCoroutine := false }
theorem pick_comp {I D a : Addr} {es xs : List Value} {L : List Nat} {ns : List Int} {lo : Nat} {iter : Expr} {p1 p2 p3 px pos : Pos} {Q : Value → Heap → Prop}
    (S : St K g env vars vals caps ((I, (Src.lst D es).cn 0) :: N) h) (hA : A.handled = none) (he : IntsAre es (L.map fun (k : Nat) => (lo : Int) + (k : Int))) (hL : ∀ k ∈ L, lo + k < ns.length) (hsz : L.length ≤ 1000) (hD : (D, .list es) ∈ N)
    (hrow : CapOk env h ("row", .ref a)) (hl : g.IsList a xs.toArray) (hx : IntsAre xs ns) (hn : ns.length < 2 ^ 30)
    (H : ∀ ys D' h', IntsAre ys (L.map fun k => ns.getD (lo + k) 0) → St K g env vars vals caps ((D', .list ys) :: N) h' → Q (.ref D') h') :
    CompGoal prog w A K env (.Subscript (.Name "row" p1) (.Name "i" p2) p3) [⟨.Name "i" px, iter, [], 0⟩] pickScope pos (.ref I) Q h := by
  have hel := he.length
  rw [List.length_map] at hel
  refine CompGoal.sel (src := .lst D es) S hA (S.at (.tail _ hD)).isList (by rw [sizeLine_eq]; show es.length ≤ _; omega) [("row", .ref a)] (fun _ => true) (fun j y => ∃ t, y = .int (ns.getD ((L.map fun (k : Nat) => (lo : Int) + (k : Int)).getD j 0).toNat 0) t) (by rfl) (.cons hrow .nil) ?_ ?_ ?_
  · intro cenv g' D' ys i v h hsc' hg hN hi hv S
    exact Wp_tests_nil ⟨rfl, S⟩
  · intro cenv g' D' ys i v h hsc' hg hN hi hv hp S
    have hi : i < es.length := hi
    have hv : es[i]? = some v := hv
    obtain ⟨tv, hv'⟩ := intsAt he (i := i) (by rw [List.length_map]; omega)
    rw [hv] at hv'; cases hv'
    have hm : (L.map fun (k : Nat) => (lo : Int) + (k : Int)).getD i 0 ∈ (L.map fun (k : Nat) => (lo : Int) + (k : Int)) := getD_mem (by rw [List.length_map]; omega)
    generalize (L.map fun (k : Nat) => (lo : Int) + (k : Int)).getD i 0 = z at hm S ⊢
    obtain ⟨k, hk, rfl⟩ := List.mem_map.mp hm
    have hkn := hL k hk
    obtain ⟨t1, hv1⟩ := intsAt hx (i := ((lo : Int) + (k : Int)).toNat) (by omega)
    repeat walk_at "m"
    refine Wp_item_list (isListExt (isListExt hl hg) S.keep) (by omega) hv1 (by omega) ?_
    exact ⟨⟨_, rfl⟩, S⟩
  · intro ys D' h hP S
    refine H ys D' h ?_ S
    have e1 := Paired.ints (f := fun j => ns.getD ((L.map fun (k : Nat) => (lo : Int) + (k : Int)).getD j 0).toNat 0) hP
    rw [List.filter_eq_self.mpr (fun _ _ => rfl), show (Src.lst D es).len = (L.map fun (k : Nat) => (lo : Int) + (k : Int)).length by rw [List.length_map]; exact hel, map_range_getD (fun v => ns.getD v.toNat 0), List.map_map] at e1
    have e2 : ((fun v : Int => ns.getD v.toNat 0) ∘ fun k : Nat => (lo : Int) + (k : Int)) = fun k => ns.getD (lo + k) 0 := by
      funext k
      show ns.getD ((lo : Int) + (k : Int)).toNat 0 = _
      rw [show ((lo : Int) + (k : Int)).toNat = lo + k by omega]
    rw [e2] at e1
    exact e1
theorem Wp_eq_bool {a b : Bool} {Q : Value → Heap → Prop} (H : Q (.bool (a == b)) h) : Wp (model prog w) A (compareOp .Eq (.bool a) (.bool b)) Q h := fun s _ hs => PyProof.Rows.eq_bool ⟨Same.rfl' s, hs ▸ H⟩
end
theorem beq_dec {a b : Int} {P : Prop} [Decidable P] (h : a = b ↔ P) : (a == b) = decide P := by
  by_cases q : P
  · rw [decide_eq_true q, h.mpr q]; exact beq_self_eq_true b
  · rw [decide_eq_false q]; exact beq_eq_false_iff_ne.mpr (fun z => q (h.mp z))

open PySem PySem.W PySem.Calls PyProof.Rows
set_option Elab.async false
set_option maxRecDepth 100000
set_option maxHeartbeats 0

theorem fig_le : ∀ n, fig n ≤ n := by
  intro n
  induction n using Nat.strongRecOn with
  | _ n ih =>
    by_cases ha : 0 < n
    · rw [fig_pos ha]
      have := ih (n / 2) (by omega)
      omega
    · have : n = 0 := by omega
      subst this; rw [fig_zero]; exact Nat.zero_le _
theorem stretch1 {prog w} {A : Around} {h₀ : Heap} {a : Addr} {xs : List Value} {ns : List Int} {lo hi : Nat} {t1 t2 : Tok} {Q : Value → Heap → Prop}
    (wd : Wd (K1 w) h₀) (hA : Ok A 4) (hl : h₀.IsList a xs.toArray) (hx : IntsAre xs ns) (hlen : ns.length ≤ 12) (hle : lo ≤ hi) (hhi : hi ≤ ns.length)
    (H : ∀ h', Ext h₀ h' → Q (.bool true) h') :
    Wp (model prog w) A (call (.ref 66) [.ref a, .int lo t1, .int hi t2] []) Q h₀ := by
  have hxl := hx.length
  refine Wp_enter (K := K1 w) ["row", "lo", "hi", "part", "ordered", "unlike", "shadow", "at", "v", "told", "asked", "x", "notes", "noting", "ends_left", "ends_right", "same"] [("row", .ref a), ("lo", .int lo t1), ("hi", .int hi t2)]
    [some (.ref a), some (.int lo t1), some (.int hi t2), none, none, none, none, none, none, none, none, none, none, none, none, none, none]
    wd (Ext.refl h₀) (N := []) (by simp) (by simp) hA (by rfl) (by rfl) (fun S => by rfl) (by rfl) (by rfl) (by rfl) (by decide) ?_
  intro e h hsc hext hno hA' S
  repeat walk_at "m"
  intro sl h F
  replace S := F.st S; clear F
  refine Wp_item_slice (S.at (.head _)) (isListExt hl S.keep) (.int _ _) (.int _ _) (by rw [sizeLine_eq]; omega) fun pa h F => ?_
  replace S := F.st S; clear F
  rw [pick_run _ _ _ (by omega) hle] at S
  obtain ⟨ps, S, hpI⟩ := S.listInts (ms := (ns.drop lo).take (hi - lo)) (IntsAre.take (IntsAre.drop hx lo) (hi - lo))
  replace S := S.sub (N' := [(pa, .list ps)]) (by walk_at "sub")
  have hpl : ((ns.drop lo).take (hi - lo)).length = hi - lo := by rw [List.length_take, List.length_drop]; omega
  have hpl' := hpI.length
  repeat walk_at "m"
  refine Wp_sorted (S.at (.head _)).isList hpI (by omega) fun od h os om F hoI hperm hsort => ?_
  replace S := F.st S; clear F
  have hol := hperm.length_eq
  have hol' := hoI.length
  have hU := uniq_ok hhi hperm hsort
  repeat walk_at "m"
  refine Wp_Assign_comp S hsc (by rfl) (by decide) (by rfl) (swaps_of hsc (by rfl)) ?_
  repeat walk_at "m"
  refine Wp_len_list (S.at (.head _)).isList (by omega) fun t => ?_
  repeat walk_at "m"
  refine Wp_iter_range0 (S.at (.head _)) (by omega) fun I h F => ?_
  replace S := F.st S; clear F
  replace S := S.sub (N' := [(I, (Src.rng 0 os.length).cn 0), (od, .list os), (pa, .list ps)]) (by walk_at "sub")
  rw [show os.length = om.length from hoI.length] at S
  refine CompGoal.sel S hA'.hd trivial (by rw [sizeLine_eq]; show om.length ≤ _; omega) [("ordered", .ref od)] (fun k => decide (k = 0) || !decide (om.getD (k - 1) 0 = om.getD k 0)) (fun i y => ∃ t, y = .int (om.getD i 0) t) (by rfl)
    (.cons (S.capVar (kindOf_of hsc (by rfl)) (.tail (.tail (.tail (.tail .head))))) .nil) ?_ ?_ ?_
  · intro cenv g' D ys i v h hsc' hg hN hi hv S
    have hi : i < om.length := hi
    obtain ⟨t, rfl⟩ := hv
    simp only [Int.zero_add] at S ⊢
    refine Wp_tests_one ?_
    repeat walk_at "m"
    refine Wp_allOr ?_
    repeat walk_at "m"
    refine ⟨fun hb => ⟨?_, S⟩, fun hb => ?_⟩
    · have : i = 0 := by simpa using hb
      rw [decide_eq_true this]; rfl
    · have hi0 : ¬ i = 0 := by simpa using hb
      obtain ⟨t1, hv1⟩ := intsAt hoI (i := i - 1) (by omega)
      obtain ⟨t2, hv2⟩ := intsAt hoI (i := i) (by omega)
      refine Wp_allOr ?_
      repeat walk_at "m"
      refine Wp_item_list (isListExt (hN (od, .list os) (by walk_at "mem")).isList S.keep) (by omega) (show os[((i : Int) - 1).toNat]? = _ by rw [show ((i : Int) - 1).toNat = i - 1 by omega]; exact hv1) (by omega) ?_
      repeat walk_at "m"
      refine Wp_item_list (isListExt (hN (od, .list os) (by walk_at "mem")).isList S.keep) (by omega) hv2 (by omega) ?_
      repeat walk_at "m"
      refine ⟨fun hb => ⟨?_, S⟩, fun hb => Wp_allOr_nil ⟨?_, S⟩⟩
      · rw [decide_eq_false (bne_iff_ne.mp hb), Bool.not_false, Bool.or_true]
      · have : om.getD (i - 1) 0 = om.getD i 0 := by simpa using hb
        simp only [this, decide_true, hi0, decide_false]; rfl
  · intro cenv g' D ys i v h hsc' hg hN hi hv hp S
    have hi : i < om.length := hi
    obtain ⟨t, rfl⟩ := hv
    simp only [Int.zero_add] at S ⊢
    obtain ⟨t1, hv1⟩ := intsAt hoI (i := i) (by omega)
    repeat walk_at "m"
    refine Wp_item_list (isListExt (hN (od, .list os) (by walk_at "mem")).isList S.keep) (by omega) hv1 (by omega) ?_
    exact ⟨⟨_, rfl⟩, S⟩
  intro us Du h hP S
  have huI : IntsAre us (uniq om) := Paired.ints (f := fun i => om.getD i 0) hP
  clear hP
  refine ⟨_, _, _, _, _, _, S, by walk_at "put2", fun h S => ?_⟩
  repeat walk_at "m"
  refine Wp_iter_list (S.at (by walk_at "mem")).isList fun I h F => ?_
  replace S := F.st S; clear F
  have hul := huI.length
  have hUle : (uniq om).length ≤ om.length := by
    unfold uniq; rw [List.length_map]; exact Nat.le_trans (List.length_filter_le _ _) (by rw [List.length_range]; exact Nat.le_refl _)
  refine Cp_for (.lst Du us) (fun j g vals N => h₀ = g ∧ ∃ D ss sh at' t ov ot, vals = [some (.ref a), some (.int lo t1), some (.int hi t2), some (.ref pa), some (.ref od), some (.ref Du), some (.ref D), some (.int ((at' : Nat) : Int) t), ov, ot, none, none, none, none, none, none, none] ∧
      N = [(D, .list ss), (Du, .list us), (od, .list os), (pa, .list ps)] ∧ IntsAre ss sh ∧ ShInv ns lo hi (uniq om) j sh at') hA'.hd S
    ⟨rfl, _, _, [], lo, _, none, none, rfl, rfl, .nil, ShInv.start hle _⟩ ?_ ?_ ?_
  · rintro i g vals N h ⟨rfl, D, ss, sh, at', t, ov, ot, rfl, rfl, hsI, hinv⟩ S
    exact (S.at (.tail _ (.tail _ (.head _)))).isList
  · clear S
    rintro i v g vals N h hi' hv ⟨rfl, D, ss, sh, at', t, ov, ot, rfl, rfl, hsI, hinv⟩ S
    have hi' : i < us.length := hi'
    have hv : us[i]? = some v := hv
    obtain ⟨tv, hv'⟩ := intsAt huI (i := i) (by omega)
    rw [hv] at hv'; cases hv'
    obtain ⟨n1, n2, hinv'⟩ := hinv.next hle hU (by omega)
    have hsl := hsI.length
    have hslen := hinv.len
    have hat := hinv.le
    repeat walk_at "m"
    refine br1 (S.wd.ext S.keep) (hA'.less (by decide)) (isListExt hl S.keep) hx hhi (by omega) fun t h hx => ?_
    replace S := S.grow hx; clear hx
    unfold BR at n1 n2 hinv'
    generalize bs (fun i_1 => !decide ((uniq om).getD i 0 < ns.getD i_1 0)) lo hi = b at n1 n2 hinv' ⊢
    repeat walk_at "m"
    refine Wp_allOr ?_
    repeat walk_at "m"
    refine ⟨fun hb => absurd (of_decide_eq_true hb) (by omega), fun _ => Wp_allOr ?_⟩
    repeat walk_at "m"
    refine ⟨fun hb => absurd (of_decide_eq_true hb) (by omega), fun _ => Wp_allOr_nil ?_⟩
    repeat walk_at "m"
    refine Wp_mulList (S.at (.head _)) (by omega) (by omega) fun D₂ h F => ?_
    replace S := F.st S; clear F
    rw [show ((b : Int) - at').toNat = b - at' by omega] at S
    refine Wp_addLists (S.at (by walk_at "mem")).isList (S.at (.head _)).isList (by rw [sizeLine_eq, List.length_replicate]; omega) fun D₃ h F => ?_
    replace S := F.st S; clear F
    repeat walk_at "m"
    replace S := (S.sub (N' := [(D₃, .list (ss ++ List.replicate (b - at') (.int ((uniq om).getD i 0) tv))), (I, (Src.lst Du us).cn (i + 1)), (Du, .list us), (od, .list os), (pa, .list ps)]) (by walk_at "sub")).swap
    exact ⟨h₀, _, _, ⟨rfl, D₃, _, _, b, _, _, _, rfl, rfl, IntsAre.append hsI (ints_rep _ _ tv), hinv'⟩, S⟩
  clear S
  rintro g vals N h ⟨rfl, D, ss, sh, at', t, ov, ot, rfl, rfl, hsI, hinv⟩ S
  obtain ⟨hat, hSh⟩ := ShInv.done hle hU (show ShInv ns lo hi (uniq om) (uniq om).length sh at' from huI.length ▸ hinv)
  have hat := hat.symm
  subst hat
  have hsl := hsI.length
  have hslen := hSh.len
  repeat walk_at "m"
  refine Wp_len_list (S.at (by walk_at "mem")).isList (by omega) fun t => ?_
  repeat walk_at "m"
  refine Wp_else (bne_eq_false_iff_eq.mpr (by omega)) ?_
  repeat walk_at "m"
  refine Wp_ListComp S hsc (by rfl) (by decide) (by rfl) ?_
  repeat walk_at "m"
  refine Wp_iter_list (S.at (by walk_at "mem")).isList fun I h F => ?_
  replace S := F.st S; clear F
  have hul := huI.length
  refine CompGoal.two (src := .lst Du us) S hA'.hd (S.at (by walk_at "mem")).isList [] (fun _ => 3) (fun _ _ v => ∃ d t, v = .int d t) (fun i j ys _ => (∃ zs, IntsAre ys zs) ∧ ys.length ≤ 3 * i + j ∧ ys.length ≤ 1000) (by rfl) .nil ?_
    (fun _ _ => ⟨⟨[], .nil⟩, Nat.zero_le _, Nat.zero_le _⟩) (fun i ys g ⟨h1, h2, h3⟩ => ⟨h1, by omega, h3⟩) (fun i j ys g ⟨_, _, h3⟩ => by rw [sizeLine_eq]; omega) ?_ ?_ ?_
  · intro cenv v
    rfl
  · intro cenv g' D ys i v oy h hsc' hg hN hi' hv hP S
    repeat walk_at "m"
    obtain ⟨g₂, hx₂, hat₂, S⟩ := S.freeze
    refine Wp_iter_tuple (isTupleExt hat₂.isTuple S.keep) fun I₂ h F => ?_
    replace S := F.st S; clear F
    exact ⟨I₂, .tpl r _, g₂, rfl, rfl, fun j v hj => ints_item (.cons _ _ (.cons _ _ (.cons _ _ .nil))) hj, hx₂, hat₂.isTuple, hP, S⟩
  · intro cenv g' D ys i j v v₂ I₂ c₂ h hsc' hg hN hi' hv hj hv₂ hP S
    obtain ⟨d, td, rfl⟩ := hv₂
    have hi' : i < us.length := hi'
    have hv : us[i]? = some v := hv
    obtain ⟨tv, hv'⟩ := intsAt huI (i := i) (by omega)
    rw [hv] at hv'; cases hv'
    obtain ⟨⟨zs, hz⟩, h2, h3⟩ := hP
    repeat walk_at "m"
    exact ⟨g', Ext.refl _, ⟨⟨_, IntsAre.append hz (.cons _ _ .nil)⟩, by rw [List.length_append, List.length_singleton]; omega, by rw [List.length_append, List.length_singleton]; omega⟩, S⟩
  intro ys g'' Da h₅ hP hg hg5 hDa hDa' S
  obtain ⟨⟨zs, hz⟩, hP2, _⟩ := hP
  replace hP2 : ys.length ≤ 3 * us.length + 0 := hP2
  repeat walk_at "m"
  refine Wp_addLists (S.at (by walk_at "mem")).isList (S.at (.head _)).isList (by rw [sizeLine_eq]; simp only [List.length_cons, List.length_nil]; omega) fun D₂ h F => ?_
  replace S := F.st S; clear F
  repeat walk_at "m"
  have hzl := IntsAre.length (.cons 0 t hz : IntsAre ([Value.int 0 t] ++ ys) (0 :: zs))
  refine Wp_iter_list (S.at (.head _)).isList fun I h F => ?_
  replace S := F.st S; clear F
  replace S := S.sub (N' := [(I, (Src.lst D₂ ([.int 0 t] ++ ys)).cn 0), (D₂, .list ([.int 0 t] ++ ys)), (D, .list ss), (Du, .list us), (od, .list os), (pa, .list ps)]) (by walk_at "sub")
  refine Cp_for (.lst D₂ ([.int 0 t] ++ ys)) (fun j g vals N => Ext h₀ g ∧ ∃ ox on oo, vals = [some (.ref a), some (.int lo t1), some (.int hi t2), some (.ref pa), some (.ref od), some (.ref Du), some (.ref D), some (.int hi _), ov, ot, some (.ref D₂), ox, on, oo, none, none, none] ∧
      N = [(D₂, .list ([.int 0 t] ++ ys)), (D, .list ss), (Du, .list us), (od, .list os), (pa, .list ps)]) hA'.hd S
    ⟨Ext.refl _, none, none, none, rfl, rfl⟩ ?_ ?_ ?_
  · rintro i g vals N h ⟨hx0, ox, on, oo, rfl, rfl⟩ S
    exact (S.at (.tail _ (.head _))).isList
  · clear S
    rintro i v g vals N h hi' hv ⟨hx0, ox, on, oo, rfl, rfl⟩ S
    have hv : ([Value.int 0 t] ++ ys)[i]? = some v := hv
    obtain ⟨x, tx, rfl⟩ := ints_item (.cons 0 t hz : IntsAre ([Value.int 0 t] ++ ys) (0 :: zs)) hv
    have hL := hSh.left x
    have hR := hSh.right x
    unfold BL at hL
    unfold BR at hR
    have hc1 : clt sh x ≤ sh.length := List.length_filter_le _ _
    have hc2 : cle sh x ≤ sh.length := List.length_filter_le _ _
    repeat walk_at "m"
    refine bl1 (S.wd.ext S.keep) (hA'.less (by decide)) (isListExt (isListExt hl hx0) S.keep) hx hhi (by omega) fun t h hxx => ?_
    replace S := S.grow hxx; clear hxx
    repeat walk_at "m"
    refine Wp_ListComp S hsc (by rfl) (by decide) (by rfl) ?_
    repeat walk_at "m"
    refine Wp_iter_list (S.at (by walk_at "mem")).isList fun I h F => ?_
    replace S := F.st S; clear F
    refine cnt_lt S hA'.hd hsI (by omega) (by walk_at "mem") (S.capVar (kindOf_of hsc (by rfl)) (by walk_at "at2")) fun y1 D1 h hy1 S => ?_
    repeat walk_at "m"
    refine Wp_len_list (S.at (.head _)).isList (by omega) fun t => ?_
    repeat walk_at "m"
    refine Wp_else (bne_eq_false_iff_eq.mpr (by omega)) ?_
    replace S := S.tail
    repeat walk_at "m"
    refine br1 (S.wd.ext S.keep) (hA'.less (by decide)) (isListExt (isListExt hl hx0) S.keep) hx hhi (by omega) fun t h hxx => ?_
    replace S := S.grow hxx; clear hxx
    repeat walk_at "m"
    refine Wp_ListComp S hsc (by rfl) (by decide) (by rfl) ?_
    repeat walk_at "m"
    refine Wp_iter_list (S.at (by walk_at "mem")).isList fun I h F => ?_
    replace S := F.st S; clear F
    refine cnt_le S hA'.hd hsI (by omega) (by walk_at "mem") (S.capVar (kindOf_of hsc (by rfl)) (by walk_at "at2")) fun y2 D2 h hy2 S => ?_
    repeat walk_at "m"
    refine Wp_len_list (S.at (.head _)).isList (by omega) fun t => ?_
    repeat walk_at "m"
    refine Wp_else (bne_eq_false_iff_eq.mpr (by omega)) ?_
    replace S := S.tail
    repeat walk_at "m"
    refine Wp_Assign_comp S hsc (by rfl) (by decide) (by rfl) (swaps_of hsc (by rfl)) ?_
    repeat walk_at "m"
    refine Wp_iter_list (isListExt (isListExt hl hx0) S.keep) fun I h F => ?_
    replace S := F.st S; clear F
    obtain ⟨nt, hq⟩ : ∃ nt, nt = r := ⟨r, rfl⟩
    subst hq
    have hnt0 := (S.news (nt, .list []) (by walk_at "mem")).2.2.1
    have S₀ := S
    obtain ⟨hC, hq⟩ : ∃ hC, hC = h := ⟨h, rfl⟩
    subst hq
    refine CompGoal.build (src := .lst a xs) S hA'.hd (isListExt (isListExt hl hx0) S.keep) [("notes", .ref nt)] (fun i ys g => i ≤ xs.length ∧ ys.length = i ∧ ∀ k, k < i → ∃ it t, ys[k]? = some (.ref it) ∧ IsAt g it (.list [.int (ns.getD k 0) t, .ref nt]) ∧ hC.get? it = none) (by rfl)
      (.cons (S.capVar (kindOf_of hsc (by rfl)) (by walk_at "at2")) .nil) (fun _ _ => ⟨Nat.zero_le _, rfl, fun k hk => absurd hk (Nat.not_lt_zero _)⟩) (fun i ys g ⟨h1, h2, _⟩ => by rw [sizeLine_eq]; omega) ?_ ?_
    · intro cenv g' D' ys' i' v h' hsc' hgI hg hN hi' hv hP S
      obtain ⟨hP1, hP2, hP3⟩ := hP
      have hi' : i' < xs.length := hi'
      have hv : xs[i']? = some v := hv
      obtain ⟨tv, hv'⟩ := intsAt hx (i := i') (by omega)
      rw [hv] at hv'; cases hv'
      have S₁ := S
      repeat walk_at "m"
      have f1 := (S.news _ (.head _)).2.2.1
      have f2 : r ≠ I := fun q => by have := S.nodN; simp only [List.map_cons, List.nodup_cons, List.mem_cons] at this; exact this.1 (.inl q)
      obtain ⟨g₂, hx₂, hat₂, S⟩ := S.freeze
      refine ⟨g₂, hx₂, ⟨hi', by rw [List.length_append, hP2]; rfl, fun k hk => ?_⟩, S⟩
      rcases Nat.lt_or_ge k i' with q | q
      · obtain ⟨it, t, e1, e2, e3⟩ := hP3 k q
        exact ⟨it, t, (List.getElem?_append_left (by omega)).trans e1, e2.ext hx₂, e3⟩
      · have : k = i' := by omega
        subst this
        refine ⟨r, _, by rw [List.getElem?_append_right (by omega), hP2, Nat.sub_self]; rfl, hat₂, ?_⟩
        cases q : hC.get? r with
        | none => rfl
        | some o => rw [hgI _ _ f2 q] at f1; cases f1
    intro ns' g'' Dn h₅ hP hg hNN hg5 hDn hDn' S
    obtain ⟨hP1, hP2, hP3⟩ := hP
    obtain ⟨g₂, hx₂, S, hold⟩ := S₀.rebaseNew S
    have hitems : ∀ k, k < ns.length → ∃ it t, ns'[k]? = some (.ref it) ∧ IsAt g₂ it (.list [.int (ns.getD k 0) t, .ref nt]) := fun k hk => by
      obtain ⟨it, t, e1, e2, e3⟩ := hP3 k (by show k < xs.length; omega)
      refine ⟨it, t, e1, ?_⟩
      obtain ⟨o, ho, r⟩ := e2
      exact ⟨o, hold it o e3 (fun q => by rw [q, hDn] at ho; cases ho) (hg5 _ _ ho), r⟩
    clear hold hP3 S₀ hg hNN hg5 hDn hDn'
    refine ⟨_, _, _, _, _, _, S, by walk_at "put2", fun h S => ?_⟩
    repeat walk_at "m"
    have hnt1 := (S.news (nt, .list []) (.tail _ (.head _))).2.2.1
    have gh : Ext g₂ (h.hide nt) := fun b o e => (Heap.hide_ne h (fun q => by rw [q, hnt1] at e; cases e)).trans (S.keep b o e)
    have hDl : (h.hide nt).IsList Dn ns'.toArray := by
      obtain ⟨o, ho, r⟩ := (S.at (.head _)).isList
      refine ⟨o, (Heap.hide_ne h fun q => ?_).trans ho, r⟩
      have := S.nodN
      simp only [List.map_cons, List.nodup_cons, List.mem_cons] at this
      exact this.1 (.inl q)
    refine blk1 (g := h.hide nt) (S.wd.ext gh) (fun b o e => Heap.of_hide e) (S.at (.tail _ (.head _))) (Heap.hide_self h nt) hDl
      (fun k hk => let ⟨it, t, e1, e2⟩ := hitems k hk; ⟨it, t, e1, isListExt e2.isList gh⟩) hhi (by omega) (hA'.less (by decide)) fun t h zn hx3 hat3 hz3 => ?_
    replace S := S.upd (.tail .head) hx3 hat3
    clear hx3 hat3 hDl gh
    replace S := S.tail
    repeat walk_at "m"
    refine Wp_ListComp S hsc (by rfl) (by decide) (by rfl) ?_
    repeat walk_at "m"
    refine Wp_iter_list (S.at (by walk_at "mem")).isList fun I h F => ?_
    replace S := F.st S; clear F
    refine cnt_lt S hA'.hd hsI (by omega) (by walk_at "mem") (S.capVar (kindOf_of hsc (by rfl)) (by walk_at "at2")) fun y3 D3 h hy3 S => ?_
    repeat walk_at "m"
    refine Wp_len_list (S.at (.head _)).isList (by omega) fun t => ?_
    repeat walk_at "m"
    refine Wp_else (bne_eq_false_iff_eq.mpr (by omega)) ?_
    replace S := S.tail
    have hfl := fig_le (hi - lo)
    repeat walk_at "m"
    refine Wp_len_list (S.at (.head _)).isList (by omega) fun t => ?_
    repeat walk_at "m"
    rw [show (hi : Int) - lo = ((hi - lo : Nat) : Int) by omega]
    refine figures1 (S.wd.ext S.keep) (hA'.less (by decide)) fun t h hxx => ?_
    replace S := S.grow hxx; clear hxx
    repeat walk_at "m"
    exact ⟨g₂, _, _, ⟨hx0.trans hx₂, _, _, _, rfl, rfl⟩, S.sub (by walk_at "sub")⟩
  clear S
  rintro g vals N h ⟨hx0, ox, on, oo, rfl, rfl⟩ S
  replace S := S.sub (N' := [(D, .list ss), (pa, .list ps)]) (by walk_at "sub")
  repeat walk_at "m"
  refine Wp_Assign_comp S hsc (by rfl) (by decide) (by rfl) (swaps_of hsc (by rfl)) ?_
  repeat walk_at "m"
  refine Wp_iter_range (S.at (.head _)) (small_of (by omega) (by omega) (by omega) (by omega)) fun I h F => ?_
  replace S := F.st S; clear F
  have hn : ((hi : Int) - lo).toNat = hi - lo := by omega
  rw [hn] at S
  replace S := S.sub (N' := [(I, (Src.rng lo (hi - lo)).cn 0), (D, .list ss), (pa, .list ps)]) (by walk_at "sub")
  refine CompGoal.sel S hA'.hd trivial (by rw [sizeLine_eq]; show hi - lo ≤ _; omega) [("hi", .int hi t2), ("lo", .int lo t1), ("row", .ref a)] (fun k => decide (BL ns lo hi (ns.getD (lo + k) 0) = lo + k)) (fun k y => ∃ t, y = .int ((lo : Int) + (k : Int)) t) (by rfl)
    (.cons (S.capVar (kindOf_of hsc (by rfl)) (.tail (.tail .head))) (.cons (S.capVar (kindOf_of hsc (by rfl)) (.tail .head)) (.cons (S.capVar (kindOf_of hsc (by rfl)) .head) .nil))) ?_ ?_ ?_
  · intro cenv g' D' ys' k v h hsc' hg hN hk hv S
    have hk : k < hi - lo := hk
    obtain ⟨t, rfl⟩ := hv
    obtain ⟨tv, hv1⟩ := intsAt hx (i := lo + k) (by omega)
    refine Wp_tests_one ?_
    repeat walk_at "m"
    refine Wp_item_list (isListExt (isListExt hl (hx0.trans hg)) S.keep) (by omega) (show xs[((lo : Int) + k).toNat]? = _ by rw [show ((lo : Int) + k).toNat = lo + k by omega]; exact hv1) (by omega) ?_
    repeat walk_at "m"
    refine bl1 (S.wd.ext S.keep) (hA'.less (by decide)) (isListExt (isListExt hl (hx0.trans hg)) S.keep) hx hhi (by omega) fun t h hxx => ?_
    replace S := S.grow hxx; clear hxx
    repeat walk_at "m"
    exact ⟨beq_dec (by unfold BL; omega), S⟩
  · intro cenv g' D' ys' k v h hsc' hg hN hk hv hp S
    obtain ⟨t, rfl⟩ := hv
    repeat walk_at "m"
    exact ⟨⟨_, rfl⟩, S⟩
  intro el Del h hP S
  have helI := Paired.ints (f := fun (k : Nat) => (lo : Int) + (k : Int)) hP
  clear hP
  change IntsAre el (((List.range (hi - lo)).filter _).map _) at helI
  generalize hLK : (List.range (hi - lo)).filter (fun k => decide (BL ns lo hi (ns.getD (lo + k) 0) = lo + k)) = LK at helI
  refine ⟨_, _, _, _, _, _, S, by walk_at "put2", fun h S => ?_⟩
  repeat walk_at "m"
  refine Wp_Assign_comp S hsc (by rfl) (by decide) (by rfl) (swaps_of hsc (by rfl)) ?_
  repeat walk_at "m"
  refine Wp_iter_range (S.at (.head _)) (small_of (by omega) (by omega) (by omega) (by omega)) fun I h F => ?_
  replace S := F.st S; clear F
  rw [hn] at S
  replace S := S.sub (N' := [(I, (Src.rng lo (hi - lo)).cn 0), (Del, .list el), (D, .list ss), (pa, .list ps)]) (by walk_at "sub")
  refine CompGoal.sel S hA'.hd trivial (by rw [sizeLine_eq]; show hi - lo ≤ _; omega) [("hi", .int hi t2), ("lo", .int lo t1), ("row", .ref a)] (fun k => decide (BR ns lo hi (ns.getD (lo + k) 0) = lo + k + 1)) (fun k y => ∃ t, y = .int ((lo : Int) + (k : Int)) t) (by rfl)
    (.cons (S.capVar (kindOf_of hsc (by rfl)) (.tail (.tail .head))) (.cons (S.capVar (kindOf_of hsc (by rfl)) (.tail .head)) (.cons (S.capVar (kindOf_of hsc (by rfl)) .head) .nil))) ?_ ?_ ?_
  · intro cenv g' D' ys' k v h hsc' hg hN hk hv S
    have hk : k < hi - lo := hk
    obtain ⟨t, rfl⟩ := hv
    obtain ⟨tv, hv1⟩ := intsAt hx (i := lo + k) (by omega)
    refine Wp_tests_one ?_
    repeat walk_at "m"
    refine Wp_item_list (isListExt (isListExt hl (hx0.trans hg)) S.keep) (by omega) (show xs[((lo : Int) + k).toNat]? = _ by rw [show ((lo : Int) + k).toNat = lo + k by omega]; exact hv1) (by omega) ?_
    repeat walk_at "m"
    refine br1 (S.wd.ext S.keep) (hA'.less (by decide)) (isListExt (isListExt hl (hx0.trans hg)) S.keep) hx hhi (by omega) fun t h hxx => ?_
    replace S := S.grow hxx; clear hxx
    repeat walk_at "m"
    exact ⟨beq_dec (by unfold BR; omega), S⟩
  · intro cenv g' D' ys' k v h hsc' hg hN hk hv hp S
    obtain ⟨t, rfl⟩ := hv
    repeat walk_at "m"
    exact ⟨⟨_, rfl⟩, S⟩
  intro er Der h hP S
  have herI := Paired.ints (f := fun (k : Nat) => (lo : Int) + (k : Int)) hP
  clear hP
  change IntsAre er (((List.range (hi - lo)).filter _).map _) at herI
  generalize hRK : (List.range (hi - lo)).filter (fun k => decide (BR ns lo hi (ns.getD (lo + k) 0) = lo + k + 1)) = RK at herI
  refine ⟨_, _, _, _, _, _, S, by walk_at "put2", fun h S => ?_⟩
  repeat walk_at "m"
  refine Wp_Assign_Name ?_ (swaps_of hsc (by rfl))
  refine Wp_ListComp S hsc (by rfl) (by decide) (by rfl) ?_
  repeat walk_at "m"
  refine Wp_iter_range (S.at (.head _)) (small_of (by omega) (by omega) (by omega) (by omega)) fun I h F => ?_
  replace S := F.st S; clear F
  rw [hn] at S
  replace S := S.sub (N' := [(I, (Src.rng lo (hi - lo)).cn 0), (Der, .list er), (Del, .list el), (D, .list ss), (pa, .list ps)]) (by walk_at "sub")
  refine CompGoal.sel S hA'.hd trivial (by rw [sizeLine_eq]; show hi - lo ≤ _; omega) [("lo", .int lo t1), ("row", .ref a), ("shadow", .ref D)] (fun k => decide (ns.getD (lo + k) 0 = sh.getD k 0)) (fun k y => ∃ t, y = .int ((lo : Int) + (k : Int)) t) (by rfl)
    (.cons (S.capVar (kindOf_of hsc (by rfl)) (.tail .head)) (.cons (S.capVar (kindOf_of hsc (by rfl)) .head) (.cons (S.capVar (kindOf_of hsc (by rfl)) (by walk_at "at2")) .nil))) ?_ ?_ ?_
  · intro cenv g' D' ys' k v h hsc' hg hN hk hv S
    have hk : k < hi - lo := hk
    obtain ⟨t, rfl⟩ := hv
    obtain ⟨tv, hv1⟩ := intsAt hx (i := lo + k) (by omega)
    obtain ⟨tv2, hv2⟩ := intsAt hsI (i := k) (by omega)
    refine Wp_tests_one ?_
    repeat walk_at "m"
    refine Wp_item_list (isListExt (isListExt hl (hx0.trans hg)) S.keep) (by omega) (show xs[((lo : Int) + k).toNat]? = _ by rw [show ((lo : Int) + k).toNat = lo + k by omega]; exact hv1) (by omega) ?_
    repeat walk_at "m"
    refine Wp_item_list (isListExt (hN (D, .list ss) (by walk_at "mem")).isList S.keep) (by omega) (show ss[((lo : Int) + k - lo).toNat]? = _ by rw [show ((lo : Int) + k - lo).toNat = k by omega]; exact hv2) (by omega) ?_
    repeat walk_at "m"
    exact ⟨beq_dec (by omega), S⟩
  · intro cenv g' D' ys' k v h hsc' hg hN hk hv hp S
    obtain ⟨t, rfl⟩ := hv
    repeat walk_at "m"
    exact ⟨⟨_, rfl⟩, S⟩
  intro sm Dsm h hP S
  have hsmI := Paired.ints (f := fun (k : Nat) => (lo : Int) + (k : Int)) hP
  clear hP
  change IntsAre sm (((List.range (hi - lo)).filter _).map _) at hsmI
  generalize hSK : (List.range (hi - lo)).filter (fun k => decide (ns.getD (lo + k) 0 = sh.getD k 0)) = SK at hsmI
  have memLK : ∀ k, k ∈ LK ↔ k < hi - lo ∧ BL ns lo hi (ns.getD (lo + k) 0) = lo + k := fun k => by rw [← hLK, List.mem_filter, List.mem_range, decide_eq_true_eq]
  have memRK : ∀ k, k ∈ RK ↔ k < hi - lo ∧ BR ns lo hi (ns.getD (lo + k) 0) = lo + k + 1 := fun k => by rw [← hRK, List.mem_filter, List.mem_range, decide_eq_true_eq]
  have memSK : ∀ k, k ∈ SK ↔ k < hi - lo ∧ ns.getD (lo + k) 0 = sh.getD k 0 := fun k => by rw [← hSK, List.mem_filter, List.mem_range, decide_eq_true_eq]
  have upLK : LK.Pairwise (· < ·) := by rw [← hLK]; exact range_filter_up _ _
  have upRK : RK.Pairwise (· < ·) := by rw [← hRK]; exact range_filter_up _ _
  have upSK : SK.Pairwise (· < ·) := by rw [← hSK]; exact range_filter_up _ _
  have lenLK : LK.length ≤ hi - lo := by rw [← hLK]; exact Nat.le_trans (List.length_filter_le _ _) (by rw [List.length_range]; exact Nat.le_refl _)
  have lenRK : RK.length ≤ hi - lo := by rw [← hRK]; exact Nat.le_trans (List.length_filter_le _ _) (by rw [List.length_range]; exact Nat.le_refl _)
  have lenSK : SK.length ≤ hi - lo := by rw [← hSK]; exact Nat.le_trans (List.length_filter_le _ _) (by rw [List.length_range]; exact Nat.le_refl _)
  have hell := helI.length
  have herl := herI.length
  have hsml := hsmI.length
  rw [List.length_map] at hell herl hsml
  clear hLK hRK hSK
  repeat walk_at "m"
  refine Wp_ListComp S hsc (by rfl) (by decide) (by rfl) ?_
  repeat walk_at "m"
  refine Wp_addLists (S.at (by walk_at "mem")).isList (S.at (by walk_at "mem")).isList (by rw [sizeLine_eq]; omega) fun D4 h F => ?_
  replace S := F.st S; clear F
  refine Wp_iter_list (S.at (.head _)).isList fun I h F => ?_
  replace S := F.st S; clear F
  have hlrI := IntsAre.append helI herI
  have hin : ∀ z ∈ (LK.map (fun (k : Nat) => (lo : Int) + (k : Int)) ++ RK.map (fun (k : Nat) => (lo : Int) + (k : Int))), z ∈ SK.map (fun (k : Nat) => (lo : Int) + (k : Int)) := by
    intro z hz
    rcases List.mem_append.mp hz with q | q
    · obtain ⟨k, hk, rfl⟩ := List.mem_map.mp q
      obtain ⟨h1, h2⟩ := (memLK k).mp hk
      exact List.mem_map.mpr ⟨k, (memSK k).mpr ⟨h1, hSh.leftEnd (by omega) h2⟩, rfl⟩
    · obtain ⟨k, hk, rfl⟩ := List.mem_map.mp q
      obtain ⟨h1, h2⟩ := (memRK k).mp hk
      exact List.mem_map.mpr ⟨k, (memSK k).mpr ⟨h1, hSh.rightEnd (by omega) h2⟩, rfl⟩
  refine CompGoal.sel (src := .lst D4 (el ++ er)) S hA'.hd (S.at (by walk_at "mem")).isList (by rw [sizeLine_eq]; show (el ++ er).length ≤ _; rw [List.length_append]; omega) [("same", .ref Dsm)] (fun _ => false) (fun _ _ => True) (by rfl)
    (.cons (S.capVar (kindOf_of hsc (by rfl)) (by walk_at "at2")) .nil) ?_ ?_ ?_
  · intro cenv g' D' ys' k v h hsc' hg hN hk hv S
    have hk : k < (el ++ er).length := hk
    have hv : (el ++ er)[k]? = some v := hv
    have hlrl := hlrI.length
    obtain ⟨tv, hv'⟩ := intsAt hlrI (i := k) (by omega)
    rw [hv] at hv'; cases hv'
    refine Wp_tests_one ?_
    repeat walk_at "m"
    refine Wp_notIn_ints hA' (isListExt (hN (Dsm, .list sm) (by walk_at "mem")).isList S.keep) hsmI ?_
    repeat walk_at "m"
    refine ⟨?_, S⟩
    rw [decide_eq_true (hin _ (getD_mem (by omega)))]; rfl
  · intro cenv g' D' ys' k v h hsc' hg hN hk hv hp S
    cases hp
  intro yn Dn h hP S
  have hP0 := hP.length
  rw [List.filter_eq_nil_iff.mpr (by simp)] at hP0
  have hyn : yn = [] := List.length_eq_zero_iff.mp hP0.symm
  subst hyn
  repeat walk_at "m"
  refine Wp_ne_ints hA' (S.at (by walk_at "mem")).isList (S.at (by walk_at "mem")).isList .nil .nil ?_
  repeat walk_at "m"
  replace S := S.sub (N' := [(Dsm, .list sm), (Der, .list er), (Del, .list el), (D, .list ss), (pa, .list ps)]) (by walk_at "sub")
  repeat walk_at "m"
  refine Wp_allOr ?_
  repeat walk_at "m"
  refine Wp_tPlain ?_
  repeat walk_at "m"
  refine Wp_ListComp S hsc (by rfl) (by decide) (by rfl) ?_
  repeat walk_at "m"
  refine Wp_iter_list (S.at (by walk_at "mem")).isList fun I h F => ?_
  replace S := F.st S; clear F
  refine pick_comp (lo := lo) (L := LK) S hA'.hd helI (fun k hk => by have := ((memLK k).mp hk).1; omega) (by omega) (by walk_at "mem") (S.capVar (kindOf_of hsc (by rfl)) .head) (isListExt hl hx0) hx (by omega) fun yl Dl h hylI S => ?_
  repeat walk_at "m"
  refine rises1 (S.wd.ext S.keep) (hA'.less (by decide)) (S.at (.head _)).isList hylI (by rw [List.length_map]; omega) fun h hxx => ?_
  rw [decide_eq_true (riseBad_nil (pairwise_map_of upLK fun a ha b hb hab => hSh.leftRise hab ((memLK a).mp ha).2 ((memLK b).mp hb).2))]
  replace S := (S.grow hxx).tail; clear hxx
  repeat walk_at "m"
  refine ⟨fun hb => (nomatch hb), fun _ => ?_⟩
  refine Wp_allOr ?_
  repeat walk_at "m"
  refine Wp_tPlain ?_
  repeat walk_at "m"
  refine Wp_ListComp S hsc (by rfl) (by decide) (by rfl) ?_
  repeat walk_at "m"
  refine Wp_iter_list (S.at (by walk_at "mem")).isList fun I h F => ?_
  replace S := F.st S; clear F
  refine pick_comp (lo := lo) (L := RK) S hA'.hd herI (fun k hk => by have := ((memRK k).mp hk).1; omega) (by omega) (by walk_at "mem") (S.capVar (kindOf_of hsc (by rfl)) .head) (isListExt hl hx0) hx (by omega) fun yl Dl h hylI S => ?_
  repeat walk_at "m"
  refine rises1 (S.wd.ext S.keep) (hA'.less (by decide)) (S.at (.head _)).isList hylI (by rw [List.length_map]; omega) fun h hxx => ?_
  rw [decide_eq_true (riseBad_nil (pairwise_map_of upRK fun a ha b hb hab => hSh.rightRise hab ((memRK a).mp ha).2 ((memRK b).mp hb).2))]
  replace S := (S.grow hxx).tail; clear hxx
  repeat walk_at "m"
  refine ⟨fun hb => (nomatch hb), fun _ => ?_⟩
  refine Wp_allOr_nil ?_
  repeat walk_at "m"
  refine Wp_ListComp S hsc (by rfl) (by decide) (by rfl) ?_
  repeat walk_at "m"
  refine Wp_iter_list (S.at (by walk_at "mem")).isList fun I h F => ?_
  replace S := F.st S; clear F
  refine pick_comp (lo := lo) (L := SK) S hA'.hd hsmI (fun k hk => by have := ((memSK k).mp hk).1; omega) (by omega) (by walk_at "mem") (S.capVar (kindOf_of hsc (by rfl)) .head) (isListExt hl hx0) hx (by omega) fun y1 D1 h hy1I S => ?_
  repeat walk_at "m"
  refine Wp_ListComp S hsc (by rfl) (by decide) (by rfl) ?_
  repeat walk_at "m"
  refine Wp_iter_list (S.at (by walk_at "mem")).isList fun I h F => ?_
  replace S := F.st S; clear F
  refine pick_comp (lo := lo) (L := SK) S hA'.hd hsmI (fun k hk => by have := ((memSK k).mp hk).1; omega) (by omega) (by walk_at "mem") (S.capVar (kindOf_of hsc (by rfl)) .head) (isListExt hl hx0) hx (by omega) fun y2 D2 h hy2I S => ?_
  have hy2l := hy2I.length
  rw [List.length_map] at hy2l
  repeat walk_at "m"
  refine Wp_sorted (S.at (.head _)).isList hy2I (by omega) fun D3 h y3 m3 F hy3I hperm3 hsort3 => ?_
  replace S := F.st S; clear F
  have hsame : SK.map (fun k => ns.getD (lo + k) 0) = m3 := by
    refine List.Perm.eq_of_pairwise (le := (· ≤ ·)) (fun a b _ _ h1 h2 => by omega) ?_ hsort3 hperm3.symm
    refine pairwise_map_of upSK fun a ha b hb hab => ?_
    rw [((memSK a).mp ha).2, ((memSK b).mp hb).2]
    have hbl : b < sh.length := by have := ((memSK b).mp hb).1; omega
    have := List.pairwise_iff_getElem.mp hSh.up a b (by omega) hbl hab
    rw [List.getD_eq_getElem?_getD, List.getD_eq_getElem?_getD, List.getElem?_eq_getElem hbl, List.getElem?_eq_getElem (by omega)]
    exact this
  refine Wp_ne_ints hA' (S.at (by walk_at "mem")).isList (S.at (by walk_at "mem")).isList hy1I hy3I ?_
  rw [decide_eq_true hsame]
  repeat walk_at "m"
  replace S := S.sub (N' := [(Dsm, .list sm), (D, .list ss), (pa, .list ps)]) (by walk_at "sub")
  refine Wp_len_list (S.at (.head _)).isList (by omega) fun t => ?_
  repeat walk_at "m"
  refine nf1 (S.wd.ext S.keep) (hA'.less (by decide)) (S.at (by walk_at "mem")).isList hpI (by omega) fun m ms t h hxx hNF hmsl hm0 hmall => ?_
  replace S := S.grow hxx; clear hxx
  have hget : ∀ k, lo + k < hi → ((ns.drop lo).take (hi - lo)).getD k 0 = ns.getD (lo + k) 0 := fun k hk => by
    rw [List.getD_eq_getElem?_getD, List.getElem?_take_of_lt (by omega), List.getElem?_drop, ← List.getD_eq_getElem?_getD]
  have hbound := nf_bound hNF hmsl hm0 hmall SK upSK (fun k hk => by have := ((memSK k).mp hk).1; omega) (fun a ha b hb hab => by
    have h1 := (memSK a).mp ha
    have h2 := (memSK b).mp hb
    rw [hget a (by omega), hget b (by omega), h1.2, h2.2]
    have hbl : b < sh.length := by omega
    have := List.pairwise_iff_getElem.mp hSh.up a b (by omega) hbl hab
    rw [List.getD_eq_getElem?_getD, List.getD_eq_getElem?_getD, List.getElem?_eq_getElem hbl, List.getElem?_eq_getElem (by omega)]
    exact this)
  repeat walk_at "m"
  refine Wp_eq_ints hA' (S.at (by walk_at "mem")).isList (S.at (by walk_at "mem")).isList hsI hpI ?_
  repeat walk_at "m"
  refine Wp_sorted (S.at (by walk_at "mem")).isList hpI (by omega) fun D5 h y5 m5 F hy5I hperm5 hsort5 => ?_
  replace S := F.st S; clear F
  refine Wp_eq_ints hA' (S.at (by walk_at "mem")).isList (S.at (by walk_at "mem")).isList hpI hy5I ?_
  refine Wp_eq_bool ?_
  rw [hSh.sorted hhi hperm5 hsort5]
  exact H _ (hx0.trans S.keep)

open PySem PySem.W PySem.Calls PyProof.Rows
set_option Elab.async false
set_option maxRecDepth 100000
set_option maxHeartbeats 0

section
variable {prog : Program} {w : World} {A : Around} {h : Heap} {env : Env} {Q : Value → Heap → Prop}
theorem Wp_BoolAnd {x y : Expr} {rest : List Expr} {pos : Pos} (H : Wp (model prog w) A (eval x env) (fun v h₁ => Wp (model prog w) A (truthy v) (fun b h₂ => (b = true → Wp (model prog w) A (boolOp pos .And (evalEach (y :: rest) env)) Q h₂) ∧ (b = false → Q v h₂)) h₁) h) :
    Wp (model prog w) A (eval (.BoolOp .And (x :: y :: rest) pos) env) Q h := Wp_boolOp_and H
theorem Wp_andCons {x y : Expr} {rest : List Expr} {pos : Pos} (H : Wp (model prog w) A (eval x env) (fun v h₁ => Wp (model prog w) A (truthy v) (fun b h₂ => (b = true → Wp (model prog w) A (boolOp pos .And (evalEach (y :: rest) env)) Q h₂) ∧ (b = false → Q v h₂)) h₁) h) :
    Wp (model prog w) A (boolOp pos .And (evalEach (x :: y :: rest) env)) Q h := Wp_boolOp_and H
theorem Wp_join {t : Sem Bool} {f : Bool → Sem Value} {P : Value → Heap → Prop} (H : Wp (model prog w) A t (fun b h' => Wp (model prog w) A (f b) P h') h) (k : ∀ v h', P v h' → Q v h') : Wp (model prog w) A t (fun b h' => Wp (model prog w) A (f b) Q h') h := H.mono fun _ _ H' => H'.mono k
theorem Wp_andOne {x : Expr} {pos : Pos} (H : Wp (model prog w) A (eval x env) Q h) : Wp (model prog w) A (boolOp pos .And (evalEach [x] env)) Q h := Wp_boolOp_one H
end

theorem law1 {prog w} {A : Around} {h₀ : Heap} {a : Addr} {xs : List Value} {ns : List Int} {Q : Value → Heap → Prop}
    (wd : Wd (K1 w) h₀) (hA : Ok A 6) (hl : h₀.IsList a xs.toArray) (hx : IntsAre xs ns) (hlen : ns.length ≤ 63)
    (H : ∀ h', Ext h₀ h' → Q (.bool true) h') :
    Wp (model prog w) A (call (.ref 73) [.ref a] []) Q h₀ := by
  have hxl := hx.length
  refine Wp_enter (K := K1 w) ["script", "row", "kept", "first", "second", "lo", "hi"] [("script", .ref a)]
    [some (.ref a), none, none, none, none, none, none]
    wd (Ext.refl h₀) (N := []) (by simp) (by simp) hA (by rfl) (by rfl) (fun S => by rfl) (by rfl) (by rfl) (by rfl) (by decide) ?_
  intro e h hsc hext hno hA' S
  repeat walk_at "m"
  refine row1 (S.wd.ext S.keep) (hA'.less (by decide)) (isListExt hl S.keep) hx hlen fun Dr h' ys ms hx1 hnone hat hI h6 h12 => ?_
  obtain ⟨g, hg, S, hnew⟩ := S.freezeNew hx1
  have hrow : g.IsList Dr ys.toArray := by
    obtain ⟨o, ho, r⟩ := hat.isIList
    exact ⟨o, hnew _ _ hnone ho, r⟩
  clear hx1 hnone hat hnew
  have hyl := hI.length
  repeat walk_at "m"
  refine Wp_list_list (isListExt hrow S.keep) (by rw [sizeLine_eq]; omega) fun Dk h F => ?_
  replace S := F.st S; clear F
  repeat walk_at "m"
  refine Wp_join (P := fun (v : Value) h' => ∃ (f : Nat) (t : Tok), v = .int f t ∧ St (K1 w) g e ["script", "row", "kept", "first", "second", "lo", "hi"] [some (.ref a), some (.ref Dr), some (.ref Dk), none, none, none, none] [] [(Dk, .list ys)] h') ?_ ?_
  · refine Wp_tPlain ?_
    repeat walk_at "m"
    refine Wp_truthy_list (isListExt hl (hg.trans S.keep)) (by omega) ?_
    cases hb : (!xs.isEmpty) with
    | true =>
      refine Wp_ethen rfl ?_
      have hp : 0 < ns.length := by
        cases xs with
        | nil => simp at hb
        | cons _ _ => simp at hxl; omega
      obtain ⟨tv, hv⟩ := intsAt hx (i := 0) hp
      repeat walk_at "m"
      refine Wp_item_list (isListExt hl (hg.trans S.keep)) (by omega) hv (by omega) ?_
      repeat walk_at "m"
      exact ⟨_, _, rfl, S⟩
    | false =>
      refine Wp_eelse rfl ?_
      repeat walk_at "m"
      exact ⟨2, _, rfl, S⟩
  clear S
  rintro v h ⟨f, tf, rfl, S⟩
  repeat walk_at "m"
  refine Wp_len_list (isListExt hl (hg.trans S.keep)) (by omega) fun t => ?_
  repeat walk_at "m"
  refine Wp.mono (Q := fun (v : Value) h' => ∃ (f2 : Nat) (t : Tok), v = .int f2 t ∧ St (K1 w) g e ["script", "row", "kept", "first", "second", "lo", "hi"] [some (.ref a), some (.ref Dr), some (.ref Dk), some (.int f tf), none, none, none] [] [(Dk, .list ys)] h') ?_ ?_
  · cases hb : decide ((xs.length : Int) > 1) with
    | true =>
      refine Wp_ethen rfl ?_
      have hp : (xs.length : Int) > 1 := of_decide_eq_true hb
      obtain ⟨tv, hv⟩ := intsAt hx (i := 1) (by omega)
      repeat walk_at "m"
      refine Wp_item_list (isListExt hl (hg.trans S.keep)) (by omega) hv (by omega) ?_
      repeat walk_at "m"
      exact ⟨_, _, rfl, S⟩
    | false =>
      refine Wp_eelse rfl ?_
      repeat walk_at "m"
      exact ⟨5, _, rfl, S⟩
  clear S
  rintro v h ⟨f2, tf2, rfl, S⟩
  repeat walk_at "m"
  refine Wp_len_list (isListExt hrow S.keep) (by omega) fun t => ?_
  repeat walk_at "m"
  rw [show ((ys.length : Int) + 1) = ((ys.length + 1 : Nat) : Int) by omega]
  refine Wp_mod (by omega) fun t => ?_
  obtain ⟨m1, m2⟩ := fmod_lt (a := (f : Int)) (L := ys.length + 1) (by omega)
  obtain ⟨lo, hlo⟩ : ∃ lo : Nat, (f : Int).fmod ((ys.length + 1 : Nat) : Int) = lo := ⟨_, (Int.toNat_of_nonneg m1).symm⟩
  rw [hlo] at m1 m2 ⊢
  clear hlo
  repeat walk_at "m"
  refine Wp_len_list (isListExt hrow S.keep) (by omega) fun t => ?_
  repeat walk_at "m"
  rw [show ((ys.length : Int) + 1 - lo) = ((ys.length + 1 - lo : Nat) : Int) by omega]
  refine Wp_mod (by omega) fun t => ?_
  obtain ⟨m3, m4⟩ := fmod_lt (a := (f2 : Int)) (L := ys.length + 1 - lo) (by omega)
  obtain ⟨d, hd⟩ : ∃ d : Nat, (f2 : Int).fmod ((ys.length + 1 - lo : Nat) : Int) = d := ⟨_, (Int.toNat_of_nonneg m3).symm⟩
  rw [hd] at m3 m4 ⊢
  clear hd
  repeat walk_at "m"
  rw [show ((lo : Int) + d) = ((lo + d : Nat) : Int) by omega] at S
  refine Wp_BoolAnd ?_
  repeat walk_at "m"
  refine Wp_len_list (isListExt hrow S.keep) (by omega) fun t => ?_
  repeat walk_at "m"
  refine stretch1 (lo := 0) (hi := ys.length) (S.wd.ext S.keep) (hA'.less (by decide)) (isListExt hrow S.keep) hI h12 (by omega) (by omega) fun h hxx => ?_
  replace S := S.grow hxx; clear hxx
  refine Wp_truthy_bool ⟨fun _ => ?_, fun hb => (nomatch hb)⟩
  refine Wp_andCons ?_
  repeat walk_at "m"
  refine stretch1 (lo := lo) (hi := lo + d) (S.wd.ext S.keep) (hA'.less (by decide)) (isListExt hrow S.keep) hI h12 (by omega) (by omega) fun h hxx => ?_
  replace S := S.grow hxx; clear hxx
  refine Wp_truthy_bool ⟨fun _ => ?_, fun hb => (nomatch hb)⟩
  refine Wp_andOne ?_
  repeat walk_at "m"
  refine Wp_eq_ints hA' (isListExt hrow S.keep) (S.at (by walk_at "mem")).isList hI hI ?_
  rw [decide_eq_true rfl]
  exact H _ (hg.trans S.keep)

open PySem PySem.W PySem.Calls PyProof.Rows
set_option Elab.async false
set_option maxRecDepth 100000
set_option maxHeartbeats 8000000
theorem fa_law {w : World} {h : Heap} {mg : Str → Option Value} {x : Str} {v u : Value} (KX : (K1 w).In h) (g : h.Ns mainGlobals mg) (hm : mg x = some v) (e : nsIn (K1 w) mainGlobals x = some (some u)) : v = u := by
  have := mg_of KX g e
  rw [hm] at this
  exact Option.some.inj this
end Mine
open Mine
theorem PySem.Challenge.cw_ec5004_01_holds : PySem.Challenge.rw_ec5004_01.Holds :=
  hd1 (by
  k_fill
  intro w s₀ s₁ mg mb G Y fa o pm cd doc dV kV ho hd hcd hD hmg hg args vals as hpre hlay hrd hwl hlo
  have KX := kIn_of Y
  have X := (Ground.X G).1
  have V := (Ground.X G).2
  try w_nolog (first | (have GL := glob_more (Ground.glob G (by first | k_qdec | decide +kernel) (by first | k_qdec | decide +kernel)) V) | (have GL := glob_more (Ground.glob G (by decide +kernel)) V))
  refine Ground.open G ?_
  intro T B D TE TW
  clear ho hD hd hcd
  wrow_args hpre hlay hrd hwl hlo
  all_goals (
    have hfa := fa_law KX T.g hmg (u := .ref 73) (by rfl)
    cases hfa
    have wd : Wd (K1 w) s₁.heap := ⟨KX, T.nolimit, mg, mb, T.g, T.b, T.builtins⟩
    refine Wp.out (Q := fun v h' => v = .bool true ∧ Ext s₁.heap h') (law1 wd ⟨rfl, by decide, by decide⟩ (by assumption) (by assumption) (by omega) (fun h' e => ⟨rfl, e⟩)) rfl ?_
    rintro v s' ⟨h2, tk, rfl⟩ ⟨rfl, ext⟩
    refine GoodW.toG ⟨.inl ⟨_, .bool true, [], rfl, raisesW_false ?_, .bool true, ?_, unshared_nil⟩, ext, rfl, hg⟩
    · wrow_none_raised
    · wrow_post))

