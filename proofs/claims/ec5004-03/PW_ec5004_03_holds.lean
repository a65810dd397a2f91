import PyProof.Rows.All
import Wide.All
import OpenK.AllK
import Wide.FinOn
import Lean
import PySem.Challenge.RW_ec5004_03
set_option Elab.async false
open PySem PySem.W PyProof.Rows
set_option Elab.async false
set_option maxRecDepth 100000
set_option maxHeartbeats 8000000
open_top hd3 for PySem.Challenge.rw_ec5004_03

namespace Mine
open PySem PySem.W PySem.Calls PyProof.Rows
set_option Elab.async false

/-- the same but for the heap and the token counter -/
def Same (s s' : Shared) : Prop := ∃ h tk, s' = { s with heap := h, toks := tk }
theorem Same.rfl' (s : Shared) : Same s s := ⟨s.heap, s.toks, rfl⟩
theorem Same.mk' (s : Shared) (h : Heap) (tk : Tok) : Same s { s with heap := h, toks := tk } := ⟨h, tk, rfl⟩
theorem Same.trans {a b c : Shared} (x : Same a b) (y : Same b c) : Same a c := by
  obtain ⟨h, t, rfl⟩ := x; obtain ⟨h', t', rfl⟩ := y; exact ⟨h', t', rfl⟩

abbrev Ext (h h' : Heap) : Prop := ∀ b o, h.get? b = some o → h'.get? b = some o
theorem Ext.refl (h : Heap) : Ext h h := fun _ _ e => e
theorem Ext.trans {a b c : Heap} (x : Ext a b) (y : Ext b c) : Ext a c := fun d o e => y d o (x d o e)

/-- t runs from h without an exception to Q -/
def Wp (M : Model) (A : Around) {α : Type} (t : Sem α) (Q : α → Heap → Prop) (h : Heap) : Prop :=
  ∀ (s : Shared) (E : Value → Shared → Prop), s.heap = h → wpAny M A t (fun a s' => Same s s' ∧ Q a s'.heap) E s

def Cp (M : Model) (A : Around) (c : Code) (Q : Flow → Heap → Prop) (h : Heap) : Prop :=
  ∀ (s : Shared), s.heap = h → codeAny M A c (fun r s' => ∃ f, r = .ok f ∧ Same s s' ∧ Q f s'.heap) s

section
variable {M : Model} {A : Around} {α β : Type} {h : Heap}

theorem Wp.out {t : Sem α} {Q : α → Heap → Prop} {Q' : α → Shared → Prop} {s : Shared} {E : Value → Shared → Prop} (H : Wp M A t Q h) (hs : s.heap = h)
    (k : ∀ a s', Same s s' → Q a s'.heap → Q' a s') : wpAny M A t Q' E s :=
  wpAny_mono (H s E hs) (fun a s' x => k a s' x.1 x.2) fun _ _ e => e

theorem Wp.mono {t : Sem α} {Q Q' : α → Heap → Prop} (H : Wp M A t Q h) (k : ∀ a h', Q a h' → Q' a h') : Wp M A t Q' h :=
  fun _ _ hs => H.out hs fun a _ e q => ⟨e, k a _ q⟩

theorem Cp.out {c : Code} {Q : Flow → Heap → Prop} {R : Result → Shared → Prop} {s : Shared} (H : Cp M A c Q h) (hs : s.heap = h)
    (k : ∀ f s', Same s s' → Q f s'.heap → R (.ok f) s') : codeAny M A c R s :=
  codeAny_mono (H s hs) fun _ s' ⟨f, e, x, y⟩ => by subst e; exact k f s' x y

theorem Cp.mono {c : Code} {Q Q' : Flow → Heap → Prop} (H : Cp M A c Q h) (k : ∀ a h', Q a h' → Q' a h') : Cp M A c Q' h :=
  fun _ hs => H.out hs fun a _ e q => ⟨a, rfl, e, k a _ q⟩

theorem Wp_pure {a : α} {Q : α → Heap → Prop} (H : Q a h) : Wp M A (pure a) Q h :=
  fun s _ hs => wpAny_pure ⟨Same.rfl' s, hs ▸ H⟩
theorem Wp_bind {m : Sem α} {f : α → Sem β} {Q : β → Heap → Prop} (H : Wp M A m (fun a h' => Wp M A (f a) Q h') h) : Wp M A (m >>= f) Q h :=
  fun _ _ hs => wpAny_bind (H.out hs fun _ _ e q => q.out rfl fun _ _ e' q' => ⟨e.trans e', q'⟩)
theorem Wp_standAt {pos : Pos} {Q : Unit → Heap → Prop} (H : Q () h) : Wp M A (standAt pos) Q h := fun s _ hs => wpAny_standAt ⟨Same.rfl' s, hs ▸ H⟩
theorem Wp_holding {vs : List Value} {m : Sem α} {Q : α → Heap → Prop} (H : Wp M A m Q h) : Wp M A (holding vs m) Q h := fun s E hs => wpAny_holding (H s E hs)
theorem Wp_of_eq {t u : Sem α} {Q : α → Heap → Prop} (e : t = u) (H : Wp M A u Q h) : Wp M A t Q h := by subst e; exact H
end


open PySem PySem.W PySem.Calls PyProof.Rows
set_option Elab.async false

inductive At2 : List Str → List (Option Value) → Str → Value → Prop
  | head {x xs v vs} : At2 (x :: xs) (some v :: vs) x v
  | tail {x y v xs o vs} : At2 xs vs x v → At2 (y :: xs) (o :: vs) x v
inductive Put2 : List Str → List (Option Value) → Str → Value → List (Option Value) → Prop
  | head {x xs o v vs} : Put2 (x :: xs) (o :: vs) x v (some v :: vs)
  | tail {x y v xs o vs vs'} : Put2 xs vs x v vs' → Put2 (y :: xs) (o :: vs) x v (o :: vs')

theorem At2.mem {xs vs x v} (a : At2 xs vs x v) : x ∈ xs := by
  induction a with
  | head => exact .head _
  | tail _ ih => exact .tail _ ih
theorem Put2.mem {xs vs x v vs'} (a : Put2 xs vs x v vs') : x ∈ xs := by
  induction a with
  | head => exact .head _
  | tail _ ih => exact .tail _ ih
theorem Put2.at {xs vs x v vs'} (p : Put2 xs vs x v vs') (nd : xs.Nodup) : ∀ {y u}, At2 xs vs' y u → (y = x ∧ u = v) ∨ (y ≠ x ∧ At2 xs vs y u) := by
  induction p with
  | head =>
    intro y u a
    cases a with
    | head => exact .inl ⟨rfl, rfl⟩
    | tail a => exact .inr ⟨fun e => (List.nodup_cons.mp nd).1 (e ▸ a.mem), .tail a⟩
  | tail p ih =>
    intro y u a
    cases a with
    | head => exact .inr ⟨fun e => (List.nodup_cons.mp nd).1 (e ▸ p.mem), .head⟩
    | tail a =>
      rcases ih (List.nodup_cons.mp nd).2 a with h | ⟨h, b⟩
      · exact .inl h
      · exact .inr ⟨h, .tail b⟩

/-- what stands at an address -/
inductive Cn where
  | list (xs : List Value)
  | ilist (xs : List Value)
  | tup (xs : List Value)
  | liter (l : Addr) (i : Nat)
  | titer (l : Addr) (i : Nat)
  | riter (x left : Int)
  | riters (x left c : Int)
  | obj (o : Obj)
def Cn.ok : Cn → Obj → Prop
  | .list xs, o => ∃ n, o = { cls := .type "list", data := .seq xs.toArray n }
  | .ilist xs, o => o.cls = .type "list" ∧ ∃ n, o.data = .seq xs.toArray n
  | .tup xs, o => ∃ n, o = { cls := .type "tuple", data := .seq xs.toArray n }
  | .liter l i, o => o.cls = .type "list_iterator" ∧ o.data = .fields #[.ref l, .int i 0]
  | .titer l i, o => o.cls = .type "tuple_iterator" ∧ o.data = .fields #[.ref l, .int i 0]
  | .riter x left, o => o = { cls := .type "range_iterator", dict := none, data := .fields #[rawInt x, rawInt left, rawInt 1], slots := #[] }
  | .riters x left c, o => o = { cls := .type "range_iterator", dict := none, data := .fields #[rawInt x, rawInt left, rawInt c], slots := #[] }
  | .obj o', o => o = o'
def IsAt (h : Heap) (a : Addr) (c : Cn) : Prop := ∃ o, h.get? a = some o ∧ c.ok o
theorem IsAt.ext {h h' : Heap} {a c} (x : IsAt h a c) (e : Ext h h') : IsAt h' a c := let ⟨o, p, q⟩ := x; ⟨o, e _ _ p, q⟩
theorem IsAt.but {h h' : Heap} {a b c} (x : IsAt h a c) (e : Heap.ExtBut b h h') (n : a ≠ b) : IsAt h' a c := let ⟨o, p, q⟩ := x; ⟨o, e _ _ n p, q⟩
theorem IsAt.isList {h : Heap} {a xs} (x : IsAt h a (.list xs)) : h.IsList a xs.toArray := let ⟨_, p, n, q⟩ := x; ⟨_, p, by rw [q], n, by rw [q]⟩
theorem IsAt.isIList {h : Heap} {a xs} (x : IsAt h a (.ilist xs)) : h.IsList a xs.toArray := let ⟨_, p, q, r⟩ := x; ⟨_, p, q, r⟩
theorem IsAt.weakL {h : Heap} {a xs} (x : IsAt h a (.list xs)) : IsAt h a (.ilist xs) := let ⟨o, p, q⟩ := x.isList; ⟨o, p, q⟩
theorem IsAt.plain {h : Heap} {a xs} (x : IsAt h a (.list xs)) : h.PlainList a xs.toArray := let ⟨_, p, n, q⟩ := x; ⟨n, q ▸ p⟩
theorem IsAt.ofPlain {h : Heap} {a} {xs : List Value} (x : h.PlainList a xs.toArray) : IsAt h a (.list xs) := let ⟨n, p⟩ := x; ⟨_, p, n, rfl⟩
theorem IsAt.isTuple {h : Heap} {a xs} (x : IsAt h a (.tup xs)) : h.IsTuple a xs.toArray := let ⟨_, p, n, q⟩ := x; ⟨_, p, by rw [q], n, by rw [q]⟩
theorem IsAt.some {h : Heap} {a c} (x : IsAt h a c) : ∃ o, h.get? a = some o := let ⟨o, p, _⟩ := x; ⟨o, p⟩

inductive LPut : List (Addr × Cn) → Addr → Cn → List (Addr × Cn) → Prop
  | head {a c c' N} : LPut ((a, c) :: N) a c' ((a, c') :: N)
  | tail {p a c' N N'} : LPut N a c' N' → LPut (p :: N) a c' (p :: N')
theorem LPut.keys {N a c N'} (p : LPut N a c N') : N'.map (·.1) = N.map (·.1) := by
  induction p with
  | head => rfl
  | tail _ ih => simp [ih]
theorem LPut.memKey {N a c N'} (p : LPut N a c N') : a ∈ N.map (·.1) := by
  induction p with
  | head => exact .head _
  | tail _ ih => exact .tail _ ih
theorem LPut.mem {N a c N'} (p : LPut N a c N') (nd : (N.map (·.1)).Nodup) : ∀ q ∈ N', q = (a, c) ∨ (q.1 ≠ a ∧ q ∈ N) := by
  induction p with
  | head =>
    intro q hq
    rcases List.mem_cons.mp hq with h | h
    · exact .inl h
    · exact .inr ⟨fun e => (List.nodup_cons.mp nd).1 (by have := List.mem_map_of_mem (f := (·.1)) h; rwa [e] at this), .tail _ h⟩
  | tail p ih =>
    intro q hq
    rcases List.mem_cons.mp hq with h | h
    · subst h; exact .inr ⟨fun e => (List.nodup_cons.mp nd).1 (by have := p.memKey; rwa [← e] at this), .head _⟩
    · rcases ih (List.nodup_cons.mp nd).2 q h with h | ⟨h, b⟩
      · exact .inl h
      · exact .inr ⟨h, .tail _ b⟩

/-- what of the world does not change -/
structure Wd (K : Frag) (h : Heap) : Prop where
  K : K.In h
  lim : h.NoLimit
  gb : ∃ mg mb, h.Ns mainGlobals mg ∧ h.Ns builtinsNs mb ∧ ∀ x : Str, x ≠ "__name__" → mb x = bootBuiltins x
theorem Wd.ext {K : Frag} {h h' : Heap} (x : Wd K h) (e : Ext h h') : Wd K h' :=
  ⟨x.K.keeps e, x.lim.keeps e, let ⟨mg, mb, a, b, c⟩ := x.gb; ⟨mg, mb, a.keeps e, b.keeps e, c⟩⟩

structure St (K : Frag) (g : Heap) (env : Env) (vars : List Str) (vals : List (Option Value)) (caps : List (Str × Value)) (N : List (Addr × Cn)) (h : Heap) : Prop where
  wd : Wd K g
  keep : Ext g h
  kfun : env.scope.kind = .function
  gl : env.globals = mainGlobals
  bu : env.builtins = builtinsNs
  nod : vars.Nodup
  hidL : g.get? env.locals = none
  ns : ∃ m, h.Ns env.locals m ∧ ∀ x v, At2 vars vals x v → env.kindOf x = some .local → m x = some v
  kind : ∀ x ∈ vars, env.kindOf x = some .local ∨ (env.kindOf x = some .cell ∧ ∃ c u, env.cells.lookup x = some c ∧ c ≠ env.locals ∧ g.get? c = none ∧ h.IsCell c u ∧ ∀ v, At2 vars vals x v → u = some v)
  apart : ∀ x ∈ vars, ∀ y ∈ vars, ∀ c, env.kindOf x = some .cell → env.kindOf y = some .cell → env.cells.lookup x = some c → env.cells.lookup y = some c → x = y
  caps : ∀ p ∈ caps, (env.kindOf p.1 = some .cell ∨ env.kindOf p.1 = some .free) ∧ ∃ c, env.cells.lookup p.1 = some c ∧ g.IsCell c (some p.2)
  news : ∀ p ∈ N, IsAt h p.1 p.2 ∧ p.1 ≠ env.locals ∧ g.get? p.1 = none ∧ ∀ x ∈ vars, env.kindOf x = some .cell → env.cells.lookup x ≠ some p.1
  nodN : (N.map (·.1)).Nodup

section
variable {K : Frag} {g h h' : Heap} {env : Env} {vars : List Str} {vals vals' : List (Option Value)} {caps : List (Str × Value)} {N N' : List (Addr × Cn)} {a : Addr} {c : Cn}

theorem St.grow (S : St K g env vars vals caps N h) (e : Ext h h') : St K g env vars vals caps N h' :=
  { S with
    keep := S.keep.trans e
    ns := let ⟨m, x, y⟩ := S.ns; ⟨m, x.keeps e, y⟩
    kind := fun x hx => (S.kind x hx).imp id fun ⟨k, c, u, p, q, r, s, t⟩ => ⟨k, c, u, p, q, r, s.keeps e, t⟩
    news := fun p hp => let ⟨x, y⟩ := S.news p hp; ⟨x.ext e, y⟩ }

theorem St.locals_some (S : St K g env vars vals caps N h) : ∃ o, h.get? env.locals = some o := let ⟨_, ⟨o, _, _, x, _⟩, _⟩ := S.ns; ⟨o, x⟩

theorem St.push (S : St K g env vars vals caps N h) (e : Ext h h') (hf : h.get? a = none) (hc : IsAt h' a c) : St K g env vars vals caps ((a, c) :: N) h' := by
  have S' := S.grow e
  refine { S' with news := fun p hp => ?_, nodN := ?_ }
  · rcases List.mem_cons.mp hp with rfl | hp
    · refine ⟨hc, fun q => ?_, ?_, fun x hx hk hl => ?_⟩
      · obtain ⟨o, ho⟩ := S.locals_some; rw [← q] at ho; simp only at ho; rw [hf] at ho; cases ho
      · cases q : g.get? a with
        | none => rfl
        | some o => have := S.keep _ _ q; rw [hf] at this; cases this
      · rcases S.kind x hx with q | ⟨_, c', u, p, _, _, ⟨o, ho, _⟩, _⟩
        · rw [hk] at q; cases q
        · rw [hl] at p; cases p; simp only at ho; rw [hf] at ho; cases ho
    · exact S'.news p hp
  · refine List.nodup_cons.mpr ⟨fun q => ?_, S.nodN⟩
    obtain ⟨p, hp, e'⟩ := List.mem_map.mp q
    obtain ⟨o, ho⟩ := (S.news p hp).1.some
    rw [e', hf] at ho; cases ho

/-- a ledger object is changed -/
theorem St.upd (S : St K g env vars vals caps N h) (p : LPut N a c N') (e : Heap.ExtBut a h h') (hc : IsAt h' a c) : St K g env vars vals caps N' h' := by
  obtain ⟨q, hq, qa⟩ := List.mem_map.mp p.memKey
  obtain ⟨_, h2, h3, h4⟩ := S.news q hq
  rw [qa] at h2 h3 h4
  have kp : ∀ b o, b ≠ a → h.get? b = some o → h'.get? b = some o := e
  refine { S with keep := fun b o x => kp b o (fun z => by rw [z, h3] at x; cases x) (S.keep b o x), ns := ?_, kind := fun x hx => ?_, news := fun r hr => ?_, nodN := by rw [p.keys]; exact S.nodN }
  · obtain ⟨m, x, y⟩ := S.ns; exact ⟨m, x.extBut e (Ne.symm h2), y⟩
  · refine (S.kind x hx).imp id fun ⟨k, c', u, p', q', r, ⟨o, ho, hd⟩, t⟩ => ⟨k, c', u, p', q', r, ⟨o, kp _ _ (fun z => h4 x hx k (z ▸ p')) ho, hd⟩, t⟩
  · rcases p.mem S.nodN r hr with rfl | ⟨n, hm⟩
    · exact ⟨hc, h2, h3, h4⟩
    · obtain ⟨x, y⟩ := S.news r hm; exact ⟨x.but e n, y⟩

theorem St.sub (S : St K g env vars vals caps N h) (s : N'.Sublist N) : St K g env vars vals caps N' h :=
  { S with news := fun p hp => S.news p (s.subset hp), nodN := S.nodN.sublist (s.map _) }

theorem St.tail (S : St K g env vars vals caps ((a, c) :: N) h) : St K g env vars vals caps N h := S.sub (List.sublist_cons_self _ _)
theorem St.swap {b : Addr} {d : Cn} (S : St K g env vars vals caps ((a, c) :: (b, d) :: N) h) : St K g env vars vals caps ((b, d) :: (a, c) :: N) h :=
  { S with
    news := fun p hp => S.news p (by simp only [List.mem_cons] at hp ⊢; rcases hp with h | h | h <;> simp [h])
    nodN := by
      have := S.nodN
      simp only [List.map_cons, List.nodup_cons, List.mem_cons, not_or] at this ⊢
      exact ⟨⟨Ne.symm this.1.1, this.2.1⟩, this.1.2, this.2.2⟩ }
theorem St.at (S : St K g env vars vals caps N h) (hm : (a, c) ∈ N) : IsAt h a c := (S.news _ hm).1

/-- forget values -/
inductive Le2 : List (Option Value) → List (Option Value) → Prop
  | nil : Le2 [] []
  | keep {o vs vs'} : Le2 vs vs' → Le2 (o :: vs) (o :: vs')
  | drop {o vs vs'} : Le2 vs vs' → Le2 (o :: vs) (none :: vs')
theorem Le2.at {vs vs'} (l : Le2 vs vs') : ∀ {xs x v}, At2 xs vs' x v → At2 xs vs x v := by
  induction l with
  | nil => intro _ _ _ a; cases a
  | keep _ ih => intro _ _ _ a; cases a with | head => exact .head | tail a => exact .tail (ih a)
  | drop _ ih => intro _ _ _ a; cases a with | tail a => exact .tail (ih a)
theorem St.forget (S : St K g env vars vals caps N h) (l : Le2 vals vals') : St K g env vars vals' caps N h :=
  { S with
    ns := let ⟨m, x, y⟩ := S.ns; ⟨m, x, fun n v a => y n v (l.at a)⟩
    kind := fun x hx => (S.kind x hx).imp id fun ⟨k, c, u, p, q, r, s, t⟩ => ⟨k, c, u, p, q, r, s, fun v a => t v (l.at a)⟩ }

def St.owned (env : Env) (vars : List Str) (N : List (Addr × Cn)) : List Addr :=
  env.locals :: (vars.filterMap fun x => if env.kindOf x = some .cell then env.cells.lookup x else none) ++ N.map (·.1)

theorem St.rebase (S : St K g env vars vals caps N h) : ∃ g', Ext g g' ∧ St K g' env vars vals caps N h ∧
    ∀ a o, h.get? a = some o → a ∉ St.owned env vars N → g'.get? a = some o := by
  have gg : Ext g (hideAll h (St.owned env vars N)) := fun b o e => hideAll_get _ (S.keep b o e) fun q => by
    rcases List.mem_append.mp q with q | q
    · rcases List.mem_cons.mp q with q | q
      · rw [q, S.hidL] at e; cases e
      · obtain ⟨x, hx, hq⟩ := List.mem_filterMap.mp q
        split at hq
        · rename_i hk
          rcases S.kind x hx with y | ⟨_, c', u, p, _, r, _⟩
          · rw [hk] at y; cases y
          · rw [p] at hq; cases hq; rw [r] at e; cases e
        · cases hq
    · obtain ⟨p, hp, hq⟩ := List.mem_map.mp q
      have := (S.news p hp).2.2.1
      rw [hq, e] at this; cases this
  refine ⟨hideAll h (St.owned env vars N), gg, { S with wd := S.wd.ext gg, keep := fun b o e => of_hideAll _ e, hidL := hideAll_none _ ?_, kind := fun x hx => ?_, caps := fun p hp => ?_, news := fun p hp => ?_ }, fun a o e n => hideAll_get _ e n⟩
  · exact List.mem_append_left _ (.head _)
  · refine (S.kind x hx).imp id fun ⟨k, c, u, p, q, r, s, t⟩ => ⟨k, c, u, p, q, hideAll_none _ ?_, s, t⟩
    exact List.mem_append_left _ (.tail _ (List.mem_filterMap.mpr ⟨x, hx, by rw [if_pos k]; exact p⟩))
  · obtain ⟨x, c, y, z⟩ := S.caps p hp
    exact ⟨x, c, y, z.keeps gg⟩
  · obtain ⟨x, y, z, t⟩ := S.news p hp
    exact ⟨x, y, hideAll_none _ (List.mem_append_right _ (List.mem_map_of_mem hp)), t⟩

theorem St.owned_some (S : St K g env vars vals caps N h) : ∀ a ∈ St.owned env vars N, ∃ o, h.get? a = some o := fun a ha => by
  rcases List.mem_append.mp ha with q | q
  · rcases List.mem_cons.mp q with q | q
    · rw [q]; exact S.locals_some
    · obtain ⟨x, hx, hq⟩ := List.mem_filterMap.mp q
      split at hq
      · rename_i hk
        rcases S.kind x hx with y | ⟨_, c', u, p, _, r, ⟨o, ho, _⟩, _⟩
        · rw [hk] at y; cases y
        · rw [p] at hq; cases hq; exact ⟨o, ho⟩
      · cases hq
  · obtain ⟨p, hp, hq⟩ := List.mem_map.mp q
    obtain ⟨o, ho⟩ := (S.news p hp).1.some
    exact ⟨o, hq ▸ ho⟩

/-- what was made between h and h' is frozen -/
theorem St.freezeNew (S : St K g env vars vals caps N h) (e : Ext h h') : ∃ g', Ext g g' ∧ St K g' env vars vals caps N h' ∧
    (∀ a o, h.get? a = none → h'.get? a = some o → g'.get? a = some o) := by
  obtain ⟨g', x, y, z⟩ := (S.grow e).rebase
  refine ⟨g', x, y, fun a o hn ho => z a o ho fun q => ?_⟩
  obtain ⟨o', ho'⟩ := S.owned_some a q
  rw [hn] at ho'; cases ho'

/-- the ledger's first object is frozen -/
theorem St.freeze (S : St K g env vars vals caps ((a, c) :: N) h) : ∃ g', Ext g g' ∧ IsAt g' a c ∧ St K g' env vars vals caps N h := by
  obtain ⟨g', x, y, z⟩ := S.tail.rebase
  obtain ⟨⟨o, ho, hc⟩, h2, h3, h4⟩ := S.news (a, c) (.head _)
  refine ⟨g', x, ⟨o, z a o ho fun q => ?_, hc⟩, y⟩
  rcases List.mem_append.mp q with q | q
  · rcases List.mem_cons.mp q with q | q
    · exact h2 q
    · obtain ⟨x, hx, hq⟩ := List.mem_filterMap.mp q
      split at hq
      · rename_i hk; exact h4 x hx hk hq
      · cases hq
  · exact (List.nodup_cons.mp S.nodN).1 q
end

open PySem PySem.W PySem.Calls PyProof.Rows
set_option Elab.async false

theorem kindOf_of {env : Env} {sc : Scope} {x : Str} {k : NameKind} (e : env.scope = sc) (l : sc.names.lookup x = some k) : env.kindOf x = some k := by
  unfold Env.kindOf; rw [e]; exact l

section
variable {prog : Program} {w : World} {A : Around} {h : Heap} {env : Env}

/- statements -/
theorem Wp_execs_nil {Q : Flow → Heap → Prop} (H : Q .next h) : Wp (model prog w) A (execs [] env) Q h := fun s _ hs => wpAny_execs_nil ⟨Same.rfl' s, hs ▸ H⟩
theorem Wp_execs_cons {st rest} {Q : Flow → Heap → Prop} (H : Wp (model prog w) A (exec st env) (fun f h' => match f with | .next => Wp (model prog w) A (execs rest env) Q h' | f => Q f h') h) :
    Wp (model prog w) A (execs (st :: rest) env) Q h := fun s E hs => wpAny_execs_cons (H.out hs fun f s' e q => by
  cases f with
  | next => exact q.out rfl fun _ _ e' q' => ⟨e.trans e', q'⟩
  | brk => exact ⟨e, q⟩
  | cont => exact ⟨e, q⟩
  | ret v => exact ⟨e, q⟩)
theorem Wp_Assign_Name {x pos' value pos} {Q : Flow → Heap → Prop} (H : Wp (model prog w) A (eval value env) (fun v h' => Wp (model prog w) A (storeName env x v) (fun _ => Q .next) h') h)
    (hs : swapsWith value (some (.Name x pos')) pos.line env = pure false) : Wp (model prog w) A (exec (.Assign [.Name x pos'] value pos) env) Q h :=
  fun _ _ e => wpAny_Assign_Name (H.out e fun _ _ e q => q.out rfl fun _ _ e' q' => ⟨e.trans e', q'⟩) hs
theorem Wp_If {test body orelse pos} {Q : Flow → Heap → Prop} (H : Wp (model prog w) A (isTrue test env (eval test env)) (fun b h' => Wp (model prog w) A (execs (cond b body orelse) env) Q h') h) :
    Wp (model prog w) A (exec (.If test body orelse pos) env) Q h := fun _ _ e => wpAny_If (H.out e fun b _ e q => by
  cases b <;> exact q.out rfl fun _ _ e' q' => ⟨e.trans e', q'⟩)
theorem Wp_then {b : Bool} {body orelse : List Stmt} {Q : Flow → Heap → Prop} (hb : b = true) (H : Wp (model prog w) A (execs body env) Q h) : Wp (model prog w) A (execs (cond b body orelse) env) Q h := by subst hb; exact H
theorem Wp_else {b : Bool} {body orelse : List Stmt} {Q : Flow → Heap → Prop} (hb : b = false) (H : Wp (model prog w) A (execs orelse env) Q h) : Wp (model prog w) A (execs (cond b body orelse) env) Q h := by subst hb; exact H
theorem Wp_split {b : Bool} {body orelse : List Stmt} {Q : Flow → Heap → Prop} (H : b = true → Wp (model prog w) A (execs body env) Q h) (H' : b = false → Wp (model prog w) A (execs orelse env) Q h) : Wp (model prog w) A (execs (cond b body orelse) env) Q h := by
  cases b
  · exact H' rfl
  · exact H rfl
theorem Wp_Return {e pos} {Q : Flow → Heap → Prop} (H : Wp (model prog w) A (eval e env) (fun v h' => Q (.ret v) h') h) : Wp (model prog w) A (exec (.Return (some e) pos) env) Q h :=
  fun _ _ e => wpAny_Return_some (H.out e fun _ _ e q => ⟨e, q⟩)
theorem Wp_Expr {e pos} {Q : Flow → Heap → Prop} (H : Wp (model prog w) A (eval e env) (fun v h' => v = .none ∧ Q .next h') h)
    (hk : env.scope.kind = .function) (hs : swapsWith e none pos.line env = pure false := by rfl) : Wp (model prog w) A (exec (.Expr e pos) env) Q h :=
  fun _ _ e => wpAny_Expr (H.out e fun v _ e q => by obtain ⟨rfl, q⟩ := q; exact ⟨e, q⟩) (by unfold interactive; rw [hk]; rfl) hs
theorem Wp_AugAssign_Name {x pos' op value pos} {Q : Flow → Heap → Prop}
    (H : Wp (model prog w) A (loadName env x) (fun old h₁ => Wp (model prog w) A (eval value env) (fun v h₂ => Wp (model prog w) A (inplaceOp op old v) (fun r h₃ => Wp (model prog w) A (storeName env x r) (fun _ => Q .next) h₃) h₂) h₁) h) :
    Wp (model prog w) A (exec (.AugAssign (.Name x pos') op value pos) env) Q h :=
  fun _ _ e => wpAny_AugAssign_Name (H.out e fun _ _ e₁ q => q.out rfl fun _ _ e₂ q => q.out rfl fun _ _ e₃ q => q.out rfl fun _ _ e₄ q => ⟨((e₁.trans e₂).trans e₃).trans e₄, q⟩)
theorem Wp_Assign_Subscript {o i pos' value pos} {Q : Flow → Heap → Prop}
    (H : Wp (model prog w) A (eval value env) (fun v h₁ => Wp (model prog w) A (eval o env) (fun ov h₂ => Wp (model prog w) A (eval i env) (fun iv h₃ => Wp (model prog w) A (setItem ov iv v) (fun _ => Q .next) h₃) h₂) h₁) h)
    (hs : swapsWith value (some (.Subscript o i pos')) pos.line env = pure false := by rfl) : Wp (model prog w) A (exec (.Assign [.Subscript o i pos'] value pos) env) Q h :=
  fun _ _ e => wpAny_Assign_Subscript (H.out e fun _ _ e₁ q => q.out rfl fun _ _ e₂ q => q.out rfl fun _ _ e₃ q => q.out rfl fun _ _ e₄ q => ⟨((e₁.trans e₂).trans e₃).trans e₄, q⟩) hs

/- expressions -/
theorem Wp_int {i k pos} {Q : Value → Heap → Prop} (H : ∀ t, Q (.int i t) h) : Wp (model prog w) A (eval (.Constant (.int i) k pos) env) Q h := fun s _ hs => wpAny_Constant_int ⟨Same.mk' s _ _, hs ▸ H _⟩
theorem Wp_none {k pos} {Q : Value → Heap → Prop} (H : Q .none h) : Wp (model prog w) A (eval (.Constant .none k pos) env) Q h := fun s _ hs => wpAny_Constant_none ⟨Same.rfl' s, hs ▸ H⟩
theorem Wp_bool {b k pos} {Q : Value → Heap → Prop} (H : Q (.bool b) h) : Wp (model prog w) A (eval (.Constant (.bool b) k pos) env) Q h := fun s _ hs => wpAny_Constant_bool ⟨Same.rfl' s, hs ▸ H⟩
theorem Wp_BinOp {l op r pos} {Q : Value → Heap → Prop} (H : Wp (model prog w) A (eval l env) (fun a h₁ => Wp (model prog w) A (eval r env) (fun b h₂ => Wp (model prog w) A (binaryOp op a b) Q h₂) h₁) h) :
    Wp (model prog w) A (eval (.BinOp l op r pos) env) Q h := fun _ _ e => wpAny_BinOp (H.out e fun _ _ e₁ q => q.out rfl fun _ _ e₂ q => q.out rfl fun _ _ e₃ q => ⟨(e₁.trans e₂).trans e₃, q⟩)
theorem Wp_Compare {l op r pos} {Q : Value → Heap → Prop} (H : Wp (model prog w) A (eval l env) (fun a h₁ => Wp (model prog w) A (eval r env) (fun b h₂ => Wp (model prog w) A (compareOp op a b) Q h₂) h₁) h)
    (hm : behindInMarks op r = false := by with_unfolding_all rfl) :
    Wp (model prog w) A (eval (.Compare l [op] [r] pos) env) Q h := fun _ _ e => wpAny_Compare1 (H.out e fun _ _ e₁ q => q.out rfl fun _ _ e₂ q => q.out rfl fun _ _ e₃ q => ⟨(e₁.trans e₂).trans e₃, q⟩) hm
theorem Wp_tCompare {l op r pos whole} {Q : Bool → Heap → Prop} (H : Wp (model prog w) A (eval l env) (fun a h₁ => Wp (model prog w) A (eval r env) (fun b h₂ => Wp (model prog w) A (compareOp op a b) (fun c h₃ => Wp (model prog w) A (truthy c) Q h₃) h₂) h₁) h)
    (hm : behindInMarks op r = false := by with_unfolding_all rfl) :
    Wp (model prog w) A (isTrue (.Compare l [op] [r] pos) env whole) Q h := fun _ _ e => wpAny_isTrue_Compare1 (H.out e fun _ _ e₁ q => q.out rfl fun _ _ e₂ q => q.out rfl fun _ _ e₃ q => q.out rfl fun _ _ e₄ q => ⟨((e₁.trans e₂).trans e₃).trans e₄, q⟩) hm
theorem Wp_tNot {x pos whole} {Q : Bool → Heap → Prop} (H : Wp (model prog w) A (isTrue x env (eval x env)) (fun c h' => Q (!c) h') h) :
    Wp (model prog w) A (isTrue (.UnaryOp .Not x pos) env whole) Q h := fun _ _ e => isTrue_not (H.out e fun _ _ e q => ⟨e, q⟩)
theorem Wp_tBool {op values pos whole} {Q : Bool → Heap → Prop} (H : Wp (model prog w) A (allTrue op values env) Q h) :
    Wp (model prog w) A (isTrue (.BoolOp op values pos) env whole) Q h := fun s E e => wpAny_isTrue_BoolOp (H s E e)
theorem Wp_allAnd_nil {Q : Bool → Heap → Prop} (H : Q true h) : Wp (model prog w) A (allTrue .And [] env) Q h := fun s _ e => wpAny_pure (a := true) ⟨Same.rfl' s, e ▸ H⟩
theorem Wp_allOr_nil {Q : Bool → Heap → Prop} (H : Q false h) : Wp (model prog w) A (allTrue .Or [] env) Q h := fun s _ e => wpAny_pure (a := false) ⟨Same.rfl' s, e ▸ H⟩
theorem Wp_allAnd {x rest} {Q : Bool → Heap → Prop} (H : Wp (model prog w) A (isTrue x env (eval x env)) (fun b h' => (b = true → Wp (model prog w) A (allTrue .And rest env) Q h') ∧ (b = false → Q false h')) h) :
    Wp (model prog w) A (allTrue .And (x :: rest) env) Q h := fun _ _ e => wpAny_allTrue_And_cons (H.out e fun b _ e q => by
  cases b with
  | true => exact (q.1 rfl).out rfl fun _ _ e' q' => ⟨e.trans e', q'⟩
  | false => exact ⟨e, q.2 rfl⟩)
theorem Wp_allOr {x rest} {Q : Bool → Heap → Prop} (H : Wp (model prog w) A (isTrue x env (eval x env)) (fun b h' => (b = true → Q true h') ∧ (b = false → Wp (model prog w) A (allTrue .Or rest env) Q h')) h) :
    Wp (model prog w) A (allTrue .Or (x :: rest) env) Q h := fun _ _ e => wpAny_allTrue_Or_cons (H.out e fun b _ e q => by
  cases b with
  | true => exact ⟨e, q.1 rfl⟩
  | false => exact (q.2 rfl).out rfl fun _ _ e' q' => ⟨e.trans e', q'⟩)
theorem Wp_tPlain {x : Expr} {whole : Sem Value} {Q : Bool → Heap → Prop} (H : Wp (model prog w) A whole (fun v h' => Wp (model prog w) A (truthy v) Q h') h)
    (he : isTrue x env whole = (do let v ← whole; standAt x.pos; holding [v] (truthy v)) := by rfl) : Wp (model prog w) A (isTrue x env whole) Q h :=
  fun _ _ e => isTrue_plain (H.out e fun _ _ e₁ q => q.out rfl fun _ _ e₂ q => ⟨e₁.trans e₂, q⟩) he
theorem Wp_IfExp {test body orelse pos} {Q : Value → Heap → Prop} (H : Wp (model prog w) A (isTrue test env (eval test env)) (fun b h' => Wp (model prog w) A (eval (cond b body orelse) env) Q h') h) :
    Wp (model prog w) A (eval (.IfExp test body orelse pos) env) Q h := fun _ _ e => wpAny_IfExp (H.out e fun b _ e q => by
  cases b <;> exact q.out rfl fun _ _ e' q' => ⟨e.trans e', q'⟩)
theorem Wp_ethen {b : Bool} {x y : Expr} {Q : Value → Heap → Prop} (hb : b = true) (H : Wp (model prog w) A (eval x env) Q h) : Wp (model prog w) A (eval (cond b x y) env) Q h := by subst hb; exact H
theorem Wp_eelse {b : Bool} {x y : Expr} {Q : Value → Heap → Prop} (hb : b = false) (H : Wp (model prog w) A (eval y env) Q h) : Wp (model prog w) A (eval (cond b x y) env) Q h := by subst hb; exact H
theorem Wp_UnaryOp {op x pos} {Q : Value → Heap → Prop} (H : Wp (model prog w) A (eval x env) (fun v h' => Wp (model prog w) A (unaryOp op v) Q h') h) :
    Wp (model prog w) A (eval (.UnaryOp op x pos) env) Q h := fun _ _ e => wpAny_UnaryOp (H.out e fun _ _ e₁ q => q.out rfl fun _ _ e₂ q => ⟨e₁.trans e₂, q⟩)
theorem Wp_And1 {x pos} {Q : Value → Heap → Prop} (H : Wp (model prog w) A (eval x env) Q h) : Wp (model prog w) A (eval (.BoolOp .And [x] pos) env) Q h := H
theorem Wp_boolOp_and {pos t u r} {Q : Value → Heap → Prop} (H : Wp (model prog w) A t (fun v h₁ => Wp (model prog w) A (truthy v) (fun b h₂ => (b = true → Wp (model prog w) A (boolOp pos .And (u :: r)) Q h₂) ∧ (b = false → Q v h₂)) h₁) h) :
    Wp (model prog w) A (boolOp pos .And (t :: u :: r)) Q h := by
  unfold boolOp
  refine Wp_bind (H.mono fun v h₁ H₁ => Wp_bind (Wp_standAt (Wp_bind (Wp_holding (H₁.mono fun b h₂ H₂ => ?_)))))
  cases b with
  | true => exact H₂.1 rfl
  | false => exact Wp_pure (H₂.2 rfl)
theorem Wp_boolOp_one {pos op t} {Q : Value → Heap → Prop} (H : Wp (model prog w) A t Q h) : Wp (model prog w) A (boolOp pos op [t]) Q h := H

/- ints -/
variable {a b : Int} {t u : Tok} {Q : Value → Heap → Prop}
theorem Wp_add (H : ∀ t, Q (.int (a + b) t) h) : Wp (model prog w) A (binaryOp .Add (.int a t) (.int b u)) Q h := fun s _ hs => PyProof.Rows.add_int ⟨Same.mk' s _ _, hs ▸ H _⟩
theorem Wp_sub (H : ∀ t, Q (.int (a - b) t) h) : Wp (model prog w) A (binaryOp .Sub (.int a t) (.int b u)) Q h := fun s _ hs => PyProof.Rows.sub_int ⟨Same.mk' s _ _, hs ▸ H _⟩
theorem Wp_mul (hm : IntMulOk a b) (H : ∀ t, Q (.int (a * b) t) h) : Wp (model prog w) A (binaryOp .Mult (.int a t) (.int b u)) Q h := fun s _ hs => PyProof.Rows.mul_int ⟨Same.mk' s _ _, hs ▸ H _⟩ hm
theorem Wp_mod (hb : b ≠ 0) (H : ∀ t, Q (.int (a.fmod b) t) h) : Wp (model prog w) A (binaryOp .Mod (.int a t) (.int b u)) Q h := fun s _ hs => PyProof.Rows.mod_int hb ⟨Same.mk' s _ _, hs ▸ H _⟩
theorem Wp_lt (H : Q (.bool (decide (a < b))) h) : Wp (model prog w) A (compareOp .Lt (.int a t) (.int b u)) Q h := fun s _ hs => PyProof.Rows.lt_int ⟨Same.rfl' s, hs ▸ H⟩
theorem Wp_le (H : Q (.bool (decide (a ≤ b))) h) : Wp (model prog w) A (compareOp .LtE (.int a t) (.int b u)) Q h := fun s _ hs => PyProof.Rows.le_int ⟨Same.rfl' s, hs ▸ H⟩
theorem Wp_gt (H : Q (.bool (decide (b < a))) h) : Wp (model prog w) A (compareOp .Gt (.int a t) (.int b u)) Q h := fun s _ hs => PyProof.Rows.gt_int ⟨Same.rfl' s, hs ▸ H⟩
theorem Wp_ge (H : Q (.bool (decide (b ≤ a))) h) : Wp (model prog w) A (compareOp .GtE (.int a t) (.int b u)) Q h := fun s _ hs => PyProof.Rows.ge_int ⟨Same.rfl' s, hs ▸ H⟩
theorem Wp_eq (H : Q (.bool (a == b)) h) : Wp (model prog w) A (compareOp .Eq (.int a t) (.int b u)) Q h := fun s _ hs => PyProof.Rows.eq_int ⟨Same.rfl' s, hs ▸ H⟩
theorem Wp_ne (H : Q (.bool (a != b)) h) : Wp (model prog w) A (compareOp .NotEq (.int a t) (.int b u)) Q h := fun s _ hs => PyProof.Rows.ne_int ⟨Same.rfl' s, hs ▸ H⟩
theorem Wp_neg (H : ∀ t, Q (.int (-a) t) h) : Wp (model prog w) A (unaryOp .USub (.int a t)) Q h := fun s _ hs => PyProof.Rows.neg_int ⟨Same.mk' s _ _, hs ▸ H _⟩
theorem Wp_truthy_bool {b : Bool} {Q : Bool → Heap → Prop} (H : Q b h) : Wp (model prog w) A (truthy (.bool b)) Q h := fun s _ hs => wpAny_truthy_bool ⟨Same.rfl' s, hs ▸ H⟩
theorem Wp_truthy_list {l : Addr} {xs : List Value} {Q : Bool → Heap → Prop} (hl : h.IsList l xs.toArray) (hf : (xs.length : Int) < 2 ^ 63) (H : Q (!xs.isEmpty) h) : Wp (model prog w) A (truthy (.ref l)) Q h :=
  fun s _ hs => by subst hs; exact wpAny_truthy_list hl (by simpa using hf) ⟨Same.mk' s _ _, by simpa using H⟩
theorem Wp_is {v v' : Value} (hp : plainIs v v' = true) (H : Q (.bool (v == v')) h) : Wp (model prog w) A (compareOp .Is v v') Q h := fun s _ hs => wpAny_is_plain hp ⟨Same.rfl' s, hs ▸ H⟩
theorem Wp_isNot {v v' : Value} (hp : plainIs v v' = true) (H : Q (.bool (!(v == v'))) h) : Wp (model prog w) A (compareOp .IsNot v v') Q h := fun s _ hs => wpAny_isNot_plain hp ⟨Same.rfl' s, hs ▸ H⟩
end

/- names -/
section
variable {prog : Program} {w : World} {A : Around} {K : Frag} {g h : Heap} {env : Env} {vars : List Str} {vals vals' : List (Option Value)} {caps : List (Str × Value)} {N : List (Addr × Cn)}
  {x : Str} {v : Value} {pos : Pos} {Q : Value → Heap → Prop}

theorem Wp_loadVar (S : St K g env vars vals caps N h) (hx : At2 vars vals x v) (H : Q v h) : Wp (model prog w) A (loadName env x) Q h := fun s E hs => by
  subst hs
  rcases S.kind x hx.mem with hk | ⟨hk, c, u, hc, _, _, hi, hu⟩
  · obtain ⟨m, hn, hm⟩ := S.ns
    exact wpAny_loadName_local S.kfun hk hn (hm x v hx hk) ⟨Same.rfl' s, H⟩
  · have := hu v hx; subst this
    exact wpAny_loadName_cell S.kfun hk hc hi ⟨Same.rfl' s, H⟩
theorem Wp_var (S : St K g env vars vals caps N h) (hx : At2 vars vals x v) (H : Q v h) (hd : (x == ("__debug__" : Str)) = false := by decide) : Wp (model prog w) A (eval (.Name x pos) env) Q h :=
  fun s E hs => wpAny_Name (Wp_loadVar S hx H s E hs) hd
theorem Wp_cap (S : St K g env vars vals caps N h) (hx : (x, v) ∈ caps) (H : Q v h) (hd : (x == ("__debug__" : Str)) = false := by decide) (hd' : (x == ("__classdict__" : Str)) = false := by decide) :
    Wp (model prog w) A (eval (.Name x pos) env) Q h := fun s E hs => by
  subst hs
  obtain ⟨hk, c, hc, hi⟩ := S.caps _ hx
  rcases hk with hk | hk
  · exact wpAny_Name (wpAny_loadName_cell S.kfun hk hc (hi.keeps S.keep) ⟨Same.rfl' s, H⟩) hd
  · exact wpAny_Name (wpAny_loadName_free S.kfun hk hc (hi.keeps S.keep) ⟨Same.rfl' s, H⟩ hd') hd
theorem Wp_glob (S : St K g env vars vals caps N h) (e : nsIn K mainGlobals x = some (some v)) (hk : env.kindOf x = some .globalImplicit) (H : Q v h) (hd : (x == ("__debug__" : Str)) = false := by decide) :
    Wp (model prog w) A (eval (.Name x pos) env) Q h := fun s E hs => by
  subst hs
  obtain ⟨mg, mb, G, B, _⟩ := S.wd.gb
  exact Name_function_global S.kfun hk (loadGlobal_global (by rw [S.gl]; exact G.keeps S.keep) (mg_of S.wd.K G e) ⟨Same.rfl' s, H⟩) hd
theorem Wp_boot (S : St K g env vars vals caps N h) (e : nsIn K mainGlobals x = some none) (hv : bootBuiltins x = some v) (hk : env.kindOf x = some .globalImplicit) (H : Q v h)
    (hn : x ≠ "__name__" := by decide) (hd : (x == ("__debug__" : Str)) = false := by decide) : Wp (model prog w) A (eval (.Name x pos) env) Q h := fun s E hs => by
  subst hs
  obtain ⟨mg, mb, G, B, hb⟩ := S.wd.gb
  exact Name_function_global S.kfun hk (loadGlobal_builtin (by rw [S.gl]; exact G.keeps S.keep) (mg_none_of S.wd.K G e) (by rw [S.bu]; exact B.keeps S.keep) ((hb x hn).trans hv) ⟨Same.rfl' s, H⟩) hd

theorem Wp_store {Q : Unit → Heap → Prop} (S : St K g env vars vals caps N h) (p : Put2 vars vals x v vals') (H : ∀ h', St K g env vars vals' caps N h' → Q () h') : Wp (model prog w) A (storeName env x v) Q h := fun s E hs => by
  subst hs
  rcases S.kind x p.mem with hk | ⟨hk, c, u, hc, hcL, hcg, hi, hu⟩
  · obtain ⟨m, hn, hm⟩ := S.ns
    refine wpAny_storeName_local hk hn (fun h' hn' hs' => ⟨Same.mk' s _ _, H _ ?_⟩) (by rw [S.kfun]; rfl)
    refine { S with keep := fun b o e => hs'.extBut b o (fun q => by rw [q, S.hidL] at e; cases e) (S.keep b o e), ns := ⟨_, hn', fun y u a hy => ?_⟩, kind := fun y hy => ?_, news := fun q hq => ?_ }
    · rcases p.at S.nod a with ⟨rfl, rfl⟩ | ⟨hne, a'⟩
      · simp
      · rw [if_neg hne]; exact hm y u a' hy
    · refine (S.kind y hy).imp id fun ⟨k, c, u', p', q', r, hi, t⟩ => ⟨k, c, u', p', q', r, hi.sameBut hs' q', fun v' a => ?_⟩
      rcases p.at S.nod a with ⟨rfl, rfl⟩ | ⟨hne, a'⟩
      · rw [hk] at k; cases k
      · exact t v' a'
    · obtain ⟨y, z, t⟩ := S.news q hq
      exact ⟨y.but hs'.extBut z, z, t⟩
  · refine wpAny_storeName_cell S.kfun hk hc hi fun h' hi' hs' => ⟨Same.mk' s _ s.toks, H _ ?_⟩
    have hkp : Heap.ExtBut c s.heap h' := hs'.extBut
    refine { S with keep := fun b o e => hkp b o (fun q => by rw [q, hcg] at e; cases e) (S.keep b o e), ns := ?_, kind := fun y hy => ?_, news := fun q hq => ?_ }
    · obtain ⟨m, hn, hm⟩ := S.ns
      refine ⟨m, hn.sameBut hs' (Ne.symm hcL), fun y u' a hy => ?_⟩
      rcases p.at S.nod a with ⟨rfl, rfl⟩ | ⟨hne, a'⟩
      · rw [hk] at hy; cases hy
      · exact hm y u' a' hy
    · rcases S.kind y hy with k | ⟨k, c', u', p', q', r, hi'', t⟩
      · exact .inl k
      · by_cases hyx : y = x
        · subst hyx
          rw [hc] at p'; cases p'
          refine .inr ⟨k, c, some v, hc, q', r, hi', fun v' a => ?_⟩
          rcases p.at S.nod a with ⟨_, rfl⟩ | ⟨hne, _⟩
          · rfl
          · exact absurd rfl hne
        · have hcc : c' ≠ c := fun q => hyx (S.apart y hy x p.mem c k hk (q ▸ p') hc)
          refine .inr ⟨k, c', u', p', q', r, hi''.sameBut hs' hcc, fun v' a => ?_⟩
          rcases p.at S.nod a with ⟨h1, _⟩ | ⟨_, a'⟩
          · exact absurd h1 hyx
          · exact t v' a'
    · obtain ⟨y, z, t, u'⟩ := S.news q hq
      exact ⟨y.but hkp (fun q' => u' x p.mem hk (q' ▸ hc)), z, t, u'⟩
end

open PySem PySem.W PySem.Calls PyProof.Rows
set_option Elab.async false

section
variable {prog : Program} {w : World} {A : Around} {h : Heap} {env : Env} {K : Frag}

theorem Wp_args_nil {pos : Pos} {Q : List Value → Heap → Prop} (H : Q [] h) : Wp (model prog w) A (spliced (backTo pos (starEach [] env))) Q h := fun s _ e => spliced_none ⟨Same.rfl' s, e ▸ H⟩
theorem Wp_args_cons {pos : Pos} {e : Expr} {rest : List Expr} {Q : List Value → Heap → Prop}
    (H : Wp (model prog w) A (eval e env) (fun v h₁ => Wp (model prog w) A (spliced (backTo pos (starEach rest env))) (fun vs h₂ => Q (v :: vs) h₂) h₁) h)
    (he : starEach (e :: rest) env = (false, eval e env) :: starEach rest env := by rfl) : Wp (model prog w) A (spliced (backTo pos (starEach (e :: rest) env))) Q h :=
  fun _ _ e => spliced_more (H.out e fun _ _ e₁ q => q.out rfl fun _ _ e₂ q => ⟨e₁.trans e₂, q⟩) he
theorem Wp_kw_nil {pos : Pos} {Q : List Value → Heap → Prop} (H : Q [] h) : Wp (model prog w) A (evalAll ((backToKw pos (keywordEach [] env)).map (·.2))) Q h := fun s _ e => kwAll_nil ⟨Same.rfl' s, e ▸ H⟩
theorem Wp_kw_cons {pos p : Pos} {name : Str} {value : Expr} {rest : List Keyword} {Q : List Value → Heap → Prop}
    (H : Wp (model prog w) A (eval value env) (fun v h₁ => Wp (model prog w) A (evalAll ((backToKw pos (keywordEach rest env)).map (·.2))) (fun vs h₂ => Q (v :: vs) h₂) h₁) h) :
    Wp (model prog w) A (evalAll ((backToKw pos (keywordEach (⟨some name, value, p⟩ :: rest) env)).map (·.2))) Q h :=
  fun _ _ e => kwAll_cons (H.out e fun _ _ e₁ q => q.out rfl fun _ _ e₂ q => ⟨e₁.trans e₂, q⟩)

theorem Wp_List {elts pos} {Q : Value → Heap → Prop} (H : Wp (model prog w) A (spliced (backTo pos (starEach elts env))) (fun vs h₁ => Wp (model prog w) A (newList vs) Q h₁) h) :
    Wp (model prog w) A (eval (.List elts pos) env) Q h := fun _ _ e => List_ (H.out e fun _ _ e₁ q => q.out rfl fun _ _ e₂ q => ⟨e₁.trans e₂, q⟩)
theorem Wp_Tuple {elts k pos} {Q : Value → Heap → Prop} (H : Wp (model prog w) A (spliced (backTo pos (starEach elts env))) (fun vs h₁ => Wp (model prog w) A (newTuple vs) Q h₁) h) :
    Wp (model prog w) A (eval (.Tuple elts k pos) env) Q h := fun _ _ e => Tuple_ (H.out e fun _ _ e₁ q => q.out rfl fun _ _ e₂ q => ⟨e₁.trans e₂, q⟩)

/-- a new object -/
def Fresh (h : Heap) (a : Addr) (c : Cn) (h' : Heap) : Prop := Ext h h' ∧ h.get? a = none ∧ IsAt h' a c
theorem get?_size_none (h : Heap) : h.get? h.objs.size = none := by
  cases q : h.get? h.objs.size with
  | none => rfl
  | some o => exact absurd (Heap.lt_size q) (Nat.lt_irrefl _)
theorem Fresh.push (h : Heap) {o : Obj} {c : Cn} (ho : o.isFreed = false) (hc : c.ok o) : Fresh h h.objs.size c (h.push o) :=
  ⟨fun _ _ e => Heap.get?_push_of_some _ e, get?_size_none h, o, Heap.get?_push_size _ ho, hc⟩
theorem Fresh.st {g env vars vals caps N} {h h' : Heap} {a c} (F : Fresh h a c h') (S : St K g env vars vals caps N h) : St K g env vars vals caps ((a, c) :: N) h' := S.push F.1 F.2.1 F.2.2

theorem Wp_newList {vs : List Value} {Q : Value → Heap → Prop} (hsz : vs.length ≤ sizeLine) (H : ∀ a h', Fresh h a (.list vs) h' → Q (.ref a) h') : Wp (model prog w) A (newList vs) Q h := fun s _ hs => by
  subst hs
  exact wpAny_newObj_type ⟨Same.mk' s _ s.toks, H _ _ (Fresh.push _ rfl ⟨_, rfl⟩)⟩ (by show vs.toArray.size ≤ sizeLine; rw [List.size_toArray]; exact hsz)
theorem Wp_newTuple {vs : List Value} {Q : Value → Heap → Prop} (hsz : vs.length ≤ sizeLine) (H : ∀ a h', Fresh h a (.tup vs) h' → Q (.ref a) h') : Wp (model prog w) A (newTuple vs) Q h := fun s _ hs => by
  subst hs
  exact wpAny_newObj_type ⟨Same.mk' s _ s.toks, H _ _ (Fresh.push _ rfl ⟨_, rfl⟩)⟩ (by show vs.toArray.size ≤ sizeLine; rw [List.size_toArray]; exact hsz)

/- calls -/
theorem Wp_Call {x np pos args keywords} {Q : Value → Heap → Prop}
    (H : Wp (model prog w) A (eval (.Name x np) env) (fun f h₁ => Wp (model prog w) A (callWith pos f [] (backTo pos (starEach args env)) (backToKw pos (keywordEach keywords env))) Q h₁) h) :
    Wp (model prog w) A (eval (.Call (.Name x np) args keywords pos) env) Q h := fun _ _ e => wpAny_Call_Name_kw (H.out e fun _ _ e₁ q => q.out rfl fun _ _ e₂ q => ⟨e₁.trans e₂, q⟩)

inductive Machine : Value → Prop
  | builtin (id) : Machine (.builtin id)
  | type (T) : Machine (.type T)
theorem Machine.looks {M : Model} {f : Value} (m : Machine f) (h : Heap) : ∃ k, (k = Keeper.frame ∨ k = Keeper.machine ∨ k = Keeper.boundFrame) ∧ Looks M h (keeperOf f) k := by
  cases m <;> exact ⟨.machine, .inr (.inl rfl), Looks.of_pure rfl⟩

theorem Wp_callWith {P : Heap → Prop} {f : Value} {first : List Value} {pos : Pos} {args : List (Bool × Sem Value)} {kws : List (Option Str × Sem Value)} {Q : Value → Heap → Prop}
    (hplain : (args.any (·.1) || kws.any (·.1.isNone)) = false) (hk : ∀ h, P h → ∃ k, (k = Keeper.frame ∨ k = Keeper.machine ∨ k = Keeper.boundFrame) ∧ Looks (model prog w) h (keeperOf f) k)
    (H : Wp (model prog w) A (evalArgs f true args kws) (fun a h₁ => P h₁ ∧ Wp (model prog w) A (call f (first ++ a.pos) a.kw) Q h₁) h) :
    Wp (model prog w) A (callWith pos f first args kws) Q h := fun _ _ e => callWith_of hplain hk (H.out e fun _ _ e₁ q => ⟨q.1, q.2.out rfl fun _ _ e₂ q => ⟨e₁.trans e₂, q⟩⟩)

/-- a call of a built-in or a type by places alone -/
theorem Wp_callM {f : Value} {first : List Value} {pos : Pos} {e : Expr} {rest : List Expr} {Q : Value → Heap → Prop} (m : Machine f)
    (H : Wp (model prog w) A (spliced (backTo pos (starEach (e :: rest) env))) (fun vs h₁ => Wp (model prog w) A (call f (first ++ vs)) Q h₁) h)
    (he : starEach (e :: rest) env = (false, eval e env) :: starEach rest env := by rfl) (hplain : (backTo pos (starEach rest env)).any (·.1) = false := by rfl) :
    Wp (model prog w) A (callWith pos f first (backTo pos (starEach (e :: rest) env)) (backToKw pos (keywordEach [] env))) Q h := by
  rw [he] at H ⊢
  refine Wp_callWith (P := fun _ => True) (by show ((false || (backTo pos (starEach rest env)).any (·.1)) || false) = false; rw [hplain]; rfl) (fun h _ => m.looks h) ?_
  intro s E e
  exact evalArgs_plain (H.out e fun _ _ e₁ q => ⟨e₁, trivial, q⟩)
theorem Wp_callM0 {f : Value} {first : List Value} {pos : Pos} {Q : Value → Heap → Prop} (m : Machine f)
    (H : Wp (model prog w) A (call f (first ++ [])) Q h) :
    Wp (model prog w) A (callWith pos f first (backTo pos (starEach [] env)) (backToKw pos (keywordEach [] env))) Q h := by
  refine Wp_callWith (P := fun _ => True) rfl (fun h _ => m.looks h) ?_
  intro s E e
  exact evalArgs_nil3 ⟨Same.rfl' s, trivial, e ▸ H⟩
/-- a call of a def of the text -/
theorem Wp_callK {f : Value} {first : List Value} {pos : Pos} {e : Expr} {rest : List Expr} {Q : Value → Heap → Prop} (hk : keepIn K f = true)
    (H : Wp (model prog w) A (spliced (backTo pos (starEach (e :: rest) env))) (fun vs h₁ => K.In h₁ ∧ Wp (model prog w) A (call f (first ++ vs)) Q h₁) h)
    (he : starEach (e :: rest) env = (false, eval e env) :: starEach rest env := by rfl) (hplain : (backTo pos (starEach rest env)).any (·.1) = false := by rfl) :
    Wp (model prog w) A (callWith pos f first (backTo pos (starEach (e :: rest) env)) (backToKw pos (keywordEach [] env))) Q h := by
  rw [he] at H ⊢
  refine Wp_callWith (P := fun h => K.In h) (by show ((false || (backTo pos (starEach rest env)).any (·.1)) || false) = false; rw [hplain]; rfl) (keeps_K hk) ?_
  intro s E e
  exact evalArgs_plain (H.out e fun _ _ e₁ q => ⟨e₁, q.1, q.2⟩)
theorem Wp_callKkw {f : Value} {first : List Value} {pos : Pos} {e : Expr} {rest : List Expr} {kws : List Keyword} {Q : Value → Heap → Prop} (hk : keepIn K f = true)
    (H : Wp (model prog w) A (spliced (backTo pos (starEach (e :: rest) env))) (fun vs h₁ => Wp (model prog w) A (evalAll ((backToKw pos (keywordEach kws env)).map (·.2)))
      (fun ks h₂ => K.In h₂ ∧ Wp (model prog w) A (call f (first ++ vs) (((backToKw pos (keywordEach kws env)).filterMap (·.1)).zip ks)) Q h₂) h₁) h)
    (he : starEach (e :: rest) env = (false, eval e env) :: starEach rest env := by rfl) (hplain : (backTo pos (starEach rest env)).any (·.1) = false := by rfl)
    (hall : (backToKw pos (keywordEach kws env)).all (·.1.isSome) = true := by rfl) (hall' : (backToKw pos (keywordEach kws env)).any (·.1.isNone) = false := by rfl) :
    Wp (model prog w) A (callWith pos f first (backTo pos (starEach (e :: rest) env)) (backToKw pos (keywordEach kws env))) Q h := by
  refine Wp_callWith (P := fun h => K.In h) (by rw [he, hall']; show ((false || (backTo pos (starEach rest env)).any (·.1)) || false) = false; rw [hplain]; rfl) (keeps_K hk) ?_
  intro s E e
  exact evalArgs_kw2 hall (H.out e fun _ _ e₁ q => q.out rfl fun _ _ e₂ q => ⟨e₁.trans e₂, q.1, q.2⟩) he

theorem Wp_call {f : Value} {pos : List Value} {kw : List (Str × Value)} {Q : Value → Heap → Prop} (H : Cp (model prog w) A (.call f ⟨pos, kw⟩) (fun fl h' => ∃ v, fl = .ret v ∧ Q v h') h) : Wp (model prog w) A (call f pos kw) Q h :=
  fun _ _ e => wpAny_call (H.out e fun _ _ e₁ q => by obtain ⟨v, rfl, q⟩ := q; exact ⟨e₁, q⟩)

/-- the room that is left: n more frames -/
structure Ok (A : Around) (n : Nat) : Prop where
  hd : A.handled = none
  dep : A.depth + n ≤ 400
  un : A.units + 20 * n ≤ 400
theorem Ok.deeper {A : Around} {n : Nat} (o : Ok A (n + 1)) (env : Env) : Ok (A.deeper env) n := ⟨o.hd, by have := o.dep; simp only [Around.deeper]; omega, by have := o.un; simp only [Around.deeper]; omega⟩
theorem Ok.room {A : Around} {n : Nat} (o : Ok A n) : A.depth < recursionLimit := by have := o.dep; have e : recursionLimit = 1000 := rfl; omega
theorem Ok.units {A : Around} {n : Nat} (o : Ok A n) : A.units + 64 < cLine := by have := o.un; have e : cLine = 9900 := rfl; omega
theorem Ok.units0 {A : Around} {n : Nat} (o : Ok A n) : A.units < cLine := by have := o.units; omega
theorem Ok.less {A : Around} {n m : Nat} (o : Ok A n) (hm : m ≤ n) : Ok A m := ⟨o.hd, by have := o.dep; omega, by have := o.un; omega⟩
theorem Ok.caller (env : Env) : Ok (callerA.deeper env) 10 := ⟨rfl, by simp only [Around.deeper, callerA]; decide, by simp only [Around.deeper, callerA]; decide⟩
theorem Ok.marked {A : Around} {n : Nat} (o : Ok A n) (hd : Option Value) (e : hd = none) : A.mark hd = A := by subst e; cases A; rfl

/-- names bound by the call -/
def bindVals (vars : List Str) (binds : List (Str × Value)) : List (Option Value) := vars.map fun x => binds.reverse.lookup x

theorem bindL_eq (kindOf : Str → Option NameKind) : ∀ (binds : List (Str × Value)) (m : Str → Option Value) (x : Str) (v : Value), kindOf x = some .local → (binds.reverse.lookup x = some v ∨ (binds.reverse.lookup x = none ∧ m x = some v)) → bindL kindOf binds m x = some v
  | [], m, x, v, hk, h => by rcases h with h | h; cases h; exact h.2
  | (n, u) :: r, m, x, v, hk, h => by
    unfold bindL
    refine bindL_eq kindOf r _ x v hk ?_
    rw [List.reverse_cons, List.lookup_append] at h
    cases hl : List.lookup x r.reverse with
    | some y => rw [hl] at h; simp at h; exact .inl (by rw [h])
    | none =>
      right
      rw [hl] at h
      refine ⟨rfl, ?_⟩
      by_cases e : x = n
      · subst e
        rw [if_pos hk]
        simp [List.lookup] at h ⊢
        exact h
      · have hb : (x == n) = false := by simpa using e
        simp [List.lookup, hb] at h
        split
        · simp [e]; exact h
        · exact h
theorem bindC_eq (kindOf : Str → Option NameKind) : ∀ (binds : List (Str × Value)) (m : Str → Option Value) (x : Str) (v : Value), kindOf x = some .cell → (binds.reverse.lookup x = some v ∨ (binds.reverse.lookup x = none ∧ m x = some v)) → bindC kindOf binds m x = some v
  | [], m, x, v, hk, h => by rcases h with h | h; cases h; exact h.2
  | (n, u) :: r, m, x, v, hk, h => by
    unfold bindC
    refine bindC_eq kindOf r _ x v hk ?_
    rw [List.reverse_cons, List.lookup_append] at h
    cases hl : List.lookup x r.reverse with
    | some y => rw [hl] at h; simp at h; exact .inl (by rw [h])
    | none =>
      right
      rw [hl] at h
      refine ⟨rfl, ?_⟩
      by_cases e : x = n
      · subst e
        rw [if_neg (by rw [hk]; decide)]
        simp [List.lookup] at h ⊢
        exact h
      · have hb : (x == n) = false := by simpa using e
        simp [List.lookup, hb] at h
        split
        · exact h
        · simp [e]; exact h
theorem At2.bind {binds : List (Str × Value)} : ∀ {vars : List Str} {x v}, At2 vars (bindVals vars binds) x v → binds.reverse.lookup x = some v
  | y :: r, x, v, h => by
    unfold bindVals at h
    rw [List.map_cons] at h
    generalize ho : binds.reverse.lookup y = o at h
    cases h with
    | head => exact ho
    | tail h => exact At2.bind h

/-- entering a def of the text -/
theorem Cp_enter {g : Heap} {N : List (Addr × Cn)} {n : Nat} {name qual : Str} {params : Arguments} {body : List Stmt} {scope : Scope} {dV kV doc pm cdv ct oc : Value} {an od : Option Addr} {osl : Array (Option Value)} {f : Addr} {args : Args} {binds : List (Str × Value)} {Q : Flow → Heap → Prop}
    (vars : List Str) (wd : Wd K g) (keep : Ext g h) (hN : ∀ p ∈ N, IsAt h p.1 p.2 ∧ g.get? p.1 = none) (ndN : (N.map (·.1)).Nodup) (hA : Ok A (n + 1))
    (ho : K.lookup f = some ⟨oc, od, .func (fnOf name qual params body scope dV kV doc pm an cdv ct), osl⟩) (hcd : codeIn K cdv qual = true)
    (hbind : ∀ s : Shared, s.heap = h → BindsTo s (fnOf name qual params body scope dV kV doc pm an cdv ct) args binds)
    (hkind : (binds.all fun y => scope.names.lookup y.1 == some .local || scope.names.lookup y.1 == some .cell) = true)
    (hv : (vars.all fun y => scope.names.lookup y == some .local || scope.names.lookup y == some .cell) = true) (hnd : vars.Nodup)
    (H : ∀ (e : Env) h₁, e.scope = scope → Ext h h₁ → h.get? e.locals = none → Ok (A.deeper e) n → St K g e vars (bindVals vars binds) [] N h₁ →
      Wp (model prog w) (A.deeper e) (execs body e) (fun fl h₂ => Q (.ret (match fl with | .ret v => v | _ => .none)) h₂) h₁)
    (hco : scope.isCoroutine = false := by rfl) (hgen : scope.isGenerator = false := by rfl) (hk : scope.kind = .function := by rfl) :
    Cp (model prog w) A (.call (.ref f) args) Q h := fun s hs => by
  have hb := hbind s hs
  subst hs
  refine codeAny_call_function hA.room (keep _ _ (wd.K _ _ ho)) rfl hco hgen rfl (codeRec_of (wd.K.keeps keep) hcd) (hb _ _ _ _ ?_)
  refine wpAny_newFunctionEnv_cells hk (kindsX hkind _) fun env' he s' x => ?_
  have hL : env'.locals = s.heap.objs.size := by subst he; rfl
  have hsc : env'.scope = scope := by subst he; rfl
  have hgl : env'.globals = mainGlobals := by subst he; rfl
  have hbu : env'.builtins = builtinsNs := by subst he; rfl
  have hce : env'.cells = cellsFrom (s.heap.objs.size + 1) scope.names [] := by subst he; rfl
  clear he
  obtain ⟨h₁, tk, rfl⟩ := x.toInCall.same
  refine ⟨(wd.lim.keeps keep).keeps x.toInCall.keep, codeAny_func ?_⟩
  have hno : s.heap.get? env'.locals = none := by rw [hL]; exact get?_size_none _
  have gno : ∀ a, s.heap.get? a = none → g.get? a = none := fun a ha => by
    cases q : g.get? a with
    | none => rfl
    | some o => have := keep _ _ q; rw [ha] at this; cases this
  have cellNo : ∀ y c, env'.cells.lookup y = some c → s.heap.get? c = none := fun y c hc => by
    have hlt := x.above y c (mem_of_lookup hc)
    rw [hL] at hlt
    cases q : s.heap.get? c with
    | none => rfl
    | some o => exact absurd (Heap.lt_size q) (Nat.not_lt.mpr (Nat.le_of_lt hlt))
  have kinds : ∀ y ∈ vars, env'.kindOf y = some .local ∨ env'.kindOf y = some .cell := fun y hy => by
    have := List.all_eq_true.mp hv y hy
    unfold Env.kindOf; rw [hsc]
    rcases Bool.or_eq_true_iff.mp this with q | q
    · exact .inl (by simpa using q)
    · exact .inr (by simpa using q)
  have S : St K g env' vars (bindVals vars binds) [] N h₁ := by
    refine ⟨wd, keep.trans x.toInCall.keep, by rw [hsc]; exact hk, hgl, hbu, hnd, gno _ hno, ⟨_, x.toInCall.ns, fun y v a hy => bindL_eq _ _ _ _ _ hy (.inl a.bind)⟩, fun y hy => ?_, fun y _ z _ c _ _ h1 h2 => ?_, fun p hp => (by cases hp), fun p hp => ?_, ndN⟩
    · refine (kinds y hy).imp id fun k => ⟨k, ?_⟩
      have : ((cellsFrom (s.heap.objs.size + 1) scope.names []).lookup y).isSome = true := cellsFrom_some _ _ _ (.inl (by unfold Env.kindOf at k; rw [hsc] at k; exact k))
      obtain ⟨c, hc⟩ := Option.isSome_iff_exists.mp this
      rw [← hce] at hc
      exact ⟨c, _, hc, fun q => by have := x.above y c (mem_of_lookup hc); rw [q] at this; exact Nat.lt_irrefl _ this, gno _ (cellNo y c hc), x.cell y c hc, fun v a => bindC_eq _ _ _ _ _ k (.inl a.bind)⟩
    · exact name_of_addr x.apart (mem_of_lookup h1) (mem_of_lookup h2)
    · obtain ⟨h1, h2⟩ := hN p hp
      refine ⟨h1.ext x.toInCall.keep, fun q => ?_, h2, fun y hy hk' hc => ?_⟩
      · obtain ⟨o, ho⟩ := h1.some; rw [q, hno] at ho; cases ho
      · obtain ⟨o, ho⟩ := h1.some; rw [cellNo y _ hc] at ho; cases ho
  exact (H env' h₁ hsc x.toInCall.keep hno (hA.deeper env') S).out rfl fun fl s'' e q => ⟨_, rfl, (Same.mk' s h₁ tk).trans e, q⟩
end

open PySem PySem.W PySem.Calls PyProof.Rows
set_option Elab.async false

theorem St.lose {K : Frag} {g h h' : Heap} {env : Env} {vars : List Str} {vals : List (Option Value)} {caps : List (Str × Value)} {N : List (Addr × Cn)} {a : Addr} {c : Cn}
    (S : St K g env vars vals caps ((a, c) :: N) h) (e : Heap.ExtBut a h h') : St K g env vars vals caps N h' := by
  obtain ⟨_, h2, h3, h4⟩ := S.news (a, c) (.head _)
  simp only at h2 h3 h4
  have nd := List.nodup_cons.mp S.nodN
  have kp : ∀ b o, b ≠ a → h.get? b = some o → h'.get? b = some o := e
  refine { S.tail with keep := fun b o x => kp b o (fun z => by rw [z, h3] at x; cases x) (S.keep b o x), ns := ?_, kind := fun x hx => ?_, news := fun r hr => ?_ }
  · obtain ⟨m, x, y⟩ := S.ns; exact ⟨m, x.extBut e (Ne.symm h2), y⟩
  · refine (S.kind x hx).imp id fun ⟨k, c', u, p', q', r, ⟨o, ho, hd⟩, t⟩ => ⟨k, c', u, p', q', r, ⟨o, kp _ _ (fun z => h4 x hx k (z ▸ p')) ho, hd⟩, t⟩
  · obtain ⟨x, y⟩ := S.news r (.tail _ hr)
    exact ⟨x.but e (fun z => nd.1 (by have := List.mem_map_of_mem (f := (·.1)) hr; rwa [z] at this)), y⟩

inductive Src where
  | lst (l : Addr) (vs : List Value)
  | tpl (l : Addr) (vs : List Value)
  | rng (a : Int) (n : Nat)
  | rngs (a c : Int) (n : Nat)
def Src.len : Src → Nat
  | .lst _ vs => vs.length
  | .tpl _ vs => vs.length
  | .rng _ n => n
  | .rngs _ _ n => n
def Src.item : Src → Nat → Value → Prop
  | .lst _ vs, i, v => vs[i]? = some v
  | .tpl _ vs, i, v => vs[i]? = some v
  | .rng a _, i, v => ∃ t, v = .int (a + i) t
  | .rngs a c _, i, v => ∃ t, v = .int (a + i * c) t
def Src.cn : Src → Nat → Cn
  | .lst l _, i => .liter l i
  | .tpl l _, i => .titer l i
  | .rng a n, i => .riter (a + i) ((n : Int) - i)
  | .rngs a c n, i => .riters (a + i * c) ((n : Int) - i) c
def Src.base : Src → Heap → Prop
  | .lst l vs, h => h.IsList l vs.toArray
  | .tpl l vs, h => h.IsTuple l vs.toArray
  | .rng _ _, _ => True
  | .rngs _ _ _, _ => True

theorem IsAt.but' {h h' : Heap} {a b : Addr} {xs : Array Value} (x : h.IsList a xs) (e : Heap.ExtBut b h h') (n : a ≠ b) : h'.IsList a xs := x.extBut e n

section
variable {prog : Program} {w : World} {A : Around} {h : Heap} {I : Addr} {src : Src} {i : Nat} {Q : Option Value → Heap → Prop}

theorem next_item (hi : IsAt h I (src.cn i)) (hb : src.base h) (hl : i < src.len) (H : ∀ v h', src.item i v → IsAt h' I (src.cn (i + 1)) → Heap.ExtBut I h h' → Q (some v) h') :
    Wp (model prog w) A (pyNext (.ref I)) Q h := fun s E hs => by
  subst hs
  obtain ⟨o, ho, hc⟩ := hi
  cases src with
  | lst l vs =>
    refine wpAny_pyNext_list_item (i := i) (x := vs[i]) ⟨o, ho, hc⟩ hb (by simp [Src.len] at hl; simp [hl]) fun h' hit' hs' => ⟨Same.mk' s _ s.toks, ?_⟩
    obtain ⟨o', ho', hc'⟩ := hit'
    exact H _ _ (List.getElem?_eq_getElem hl) ⟨o', ho', hc'⟩ hs'.extBut
  | tpl l vs =>
    refine wpAny_pyNext_tuple_item (i := i) (x := vs[i]) ⟨o, ho, hc⟩ hb (by simp [Src.len] at hl; simp [hl]) fun h' hit' hs' => ⟨Same.mk' s _ s.toks, ?_⟩
    obtain ⟨o', ho', hc'⟩ := hit'
    exact H _ _ (List.getElem?_eq_getElem hl) ⟨o', ho', hc'⟩ hs'.extBut
  | rng a n =>
    have hc' : o = _ := hc
    subst hc'
    have hl' : i < n := hl
    refine wpAny_pyNext_range_item (x := a + i) (left := (n : Int) - i) (step := 1) ho (by omega) fun h' hit' hs' => ⟨Same.mk' s _ _, ?_⟩
    have e1 : a + (i : Int) + 1 = a + ((i + 1 : Nat) : Int) := by omega
    have e2 : (n : Int) - i - 1 = n - ((i + 1 : Nat) : Int) := by omega
    rw [e1, e2] at hit'
    exact H _ _ ⟨_, rfl⟩ ⟨_, hit', rfl⟩ hs'.extBut
  | rngs a c n =>
    have hc' : o = _ := hc
    subst hc'
    have hl' : i < n := hl
    refine wpAny_pyNext_range_item (x := a + i * c) (left := (n : Int) - i) (step := c) ho (by omega) fun h' hit' hs' => ⟨Same.mk' s _ _, ?_⟩
    have e1 : a + (i : Int) * c + c = a + ((i + 1 : Nat) : Int) * c := by rw [show (((i + 1 : Nat) : Int)) = (i : Int) + 1 from by omega, Int.add_mul]; omega
    have e2 : (n : Int) - i - 1 = n - ((i + 1 : Nat) : Int) := by omega
    rw [e1, e2] at hit'
    exact H _ _ ⟨_, rfl⟩ ⟨_, hit', rfl⟩ hs'.extBut

theorem next_end (hA : A.handled = none) (hi : IsAt h I (src.cn src.len)) (hb : src.base h) (H : ∀ h', Heap.ExtBut I h h' → Q none h') :
    Wp (model prog w) A (pyNext (.ref I)) Q h := fun s E hs => by
  subst hs
  obtain ⟨o, ho, hc⟩ := hi
  cases src with
  | lst l vs => exact wpAny_pyNext_list_end hA ⟨o, ho, hc⟩ hb (by simp [Src.len]) fun h' e => ⟨Same.mk' s _ s.toks, H _ e⟩
  | tpl l vs => exact wpAny_pyNext_tuple_end hA ⟨o, ho, hc⟩ hb (by simp [Src.len]) fun h' e => ⟨Same.mk' s _ s.toks, H _ e⟩
  | rng a n =>
    have hc' : o = _ := hc
    subst hc'
    exact wpAny_pyNext_range_end hA ho (by simp [Src.len]) fun h' e => ⟨Same.mk' s _ s.toks, H _ e⟩
  | rngs a c n =>
    have hc' : o = _ := hc
    subst hc'
    exact wpAny_pyNext_range_end hA ho (by simp [Src.len]) fun h' e => ⟨Same.mk' s _ s.toks, H _ e⟩

theorem Wp_iter_list {l : Addr} {xs : List Value} {Q : Value → Heap → Prop} (hl : h.IsList l xs.toArray) (H : ∀ I h', Fresh h I ((Src.lst l xs).cn 0) h' → Q (.ref I) h') : Wp (model prog w) A (pyIter (.ref l)) Q h := fun s _ hs => by
  subst hs
  exact wpAny_pyIter_list hl ⟨Same.mk' s _ s.toks, H _ _ (Fresh.push _ rfl ⟨rfl, rfl⟩)⟩
theorem Wp_iter_tuple {l : Addr} {xs : List Value} {Q : Value → Heap → Prop} (hl : h.IsTuple l xs.toArray) (H : ∀ I h', Fresh h I ((Src.tpl l xs).cn 0) h' → Q (.ref I) h') : Wp (model prog w) A (pyIter (.ref l)) Q h := fun s _ hs => by
  subst hs
  exact wpAny_pyIter_tuple hl ⟨Same.mk' s _ s.toks, H _ _ (Fresh.push _ rfl ⟨rfl, rfl⟩)⟩

theorem rangeSize_one (a b : Int) : Builtin.Range.rangeSize a b 1 = ((b - a).toNat : Int) := by
  unfold Builtin.Range.rangeSize
  rw [if_pos (by decide)]
  split
  · rw [Int.ediv_one]; omega
  · omega

def rangeObj (a b : Int) (t u v : Tok) : Obj := { cls := .type "range", dict := none, data := .fields #[.int a t, .int b u, .int 1 v], slots := #[] }
theorem Wp_iter_range {l : Addr} {a b : Int} {t u v : Tok} {Q : Value → Heap → Prop} (hl : IsAt h l (.obj (rangeObj a b t u v))) (hs : Builtin.Range.small a b 1 = true)
    (H : ∀ I h', Fresh h I ((Src.rng a (b - a).toNat).cn 0) h' → Q (.ref I) h') : Wp (model prog w) A (pyIter (.ref l)) Q h := fun s _ e => by
  subst e
  obtain ⟨o, ho, rfl⟩ := hl
  refine wpAny_pyIter_range ho hs ⟨Same.mk' s _ s.toks, H _ _ (Fresh.push _ rfl ?_)⟩
  simp only [Src.cn, Cn.ok, rangeSize_one]
  simp
end

/- loops -/
section
variable {prog : Program} {w : World} {A : Around} {K : Frag} {g h : Heap} {env : Env} {vars : List Str} {vals : List (Option Value)} {caps : List (Str × Value)} {N : List (Addr × Cn)}

theorem Wp_While {test body orelse pos} {Q : Flow → Heap → Prop} (H : Cp (model prog w) A (.whileLoop test body orelse env) Q h) : Wp (model prog w) A (exec (.While test body orelse pos) env) Q h :=
  fun _ _ e => wpAny_While (H.out e fun _ _ e q => ⟨e, q⟩)
theorem Wp_For {target iter body orelse pos} {Q : Flow → Heap → Prop}
    (H : Wp (model prog w) A (eval iter env) (fun x h₁ => Wp (model prog w) A (pyIter x) (fun it h₂ => Cp (model prog w) A (.forLoop target it body orelse env) Q h₂) h₁) h)
    (hs : ∀ x, foldedSetIterable iter env x = pure x := by intro _; rfl) : Wp (model prog w) A (exec (.For target iter body orelse pos) env) Q h :=
  fun _ _ e => wpAny_For (H.out e fun _ _ e₁ q => q.out rfl fun _ _ e₂ q => q.out rfl fun _ _ e₃ q => ⟨(e₁.trans e₂).trans e₃, q⟩) hs

theorem Cp_while {test : Expr} {body : List Stmt} {Q : Flow → Heap → Prop} (Inv : Nat → Heap → List (Option Value) → List (Addr × Cn) → Prop) {n : Nat}
    (S : St K g env vars vals caps N h) (h0 : Inv n g vals N)
    (turn : ∀ n g vals N h, Inv n g vals N → St K g env vars vals caps N h → Wp (model prog w) A (isTrue test env (eval test env)) (fun b h₁ =>
      (b = true → Wp (model prog w) A (execs body env) (fun f h₂ => match f with
        | .next | .cont => ∃ m g' vals' N', m < n ∧ Inv m g' vals' N' ∧ St K g' env vars vals' caps N' h₂
        | .brk => Q .next h₂
        | .ret v => Q (.ret v) h₂) h₁) ∧ (b = false → Q .next h₁)) h) :
    Cp (model prog w) A (.whileLoop test body [] env) Q h := fun s hs => by
  refine codeAny_whileLoop (fun n s' => Same s s' ∧ ∃ g vals N, Inv n g vals N ∧ St K g env vars vals caps N s'.heap) ?_ n ⟨Same.rfl' s, g, vals, N, h0, hs ▸ S⟩
  rintro n s' ⟨e, g, vals, N, hI, S⟩
  refine (turn n g vals N _ hI S).out rfl fun b s₂ e₂ q => ?_
  cases b with
  | false => exact wpAny_execs_nil ⟨_, rfl, e.trans e₂, q.2 rfl⟩
  | true =>
    refine (q.1 rfl).out rfl fun f s₃ e₃ q => ?_
    cases f with
    | next => obtain ⟨m, g', vals', N', hm, hI', S'⟩ := q; exact ⟨m, hm, (e.trans e₂).trans e₃, g', vals', N', hI', S'⟩
    | cont => obtain ⟨m, g', vals', N', hm, hI', S'⟩ := q; exact ⟨m, hm, (e.trans e₂).trans e₃, g', vals', N', hI', S'⟩
    | brk => exact ⟨_, rfl, (e.trans e₂).trans e₃, q⟩
    | ret v => exact ⟨_, rfl, (e.trans e₂).trans e₃, q⟩

theorem Cp_for {target : Expr} {body : List Stmt} {Q : Flow → Heap → Prop} {I : Addr} (src : Src) (Inv : Nat → Heap → List (Option Value) → List (Addr × Cn) → Prop) (hA : A.handled = none)
    (S : St K g env vars vals caps ((I, src.cn 0) :: N) h) (h0 : Inv 0 g vals N)
    (base : ∀ i g vals N h, Inv i g vals N → St K g env vars vals caps ((I, src.cn i) :: N) h → src.base h)
    (turn : ∀ i v g vals N h, i < src.len → src.item i v → Inv i g vals N → St K g env vars vals caps ((I, src.cn (i + 1)) :: N) h →
      Wp (model prog w) A (letOwnedTupleGo target (.ref I) v) (fun _ h₀ => Wp (model prog w) A (assign target env v) (fun _ h₁ => Wp (model prog w) A (execs body env) (fun f h₂ => match f with
        | .next | .cont => ∃ g' vals' N', Inv (i + 1) g' vals' N' ∧ St K g' env vars vals' caps ((I, src.cn (i + 1)) :: N') h₂
        | .brk => Q .next h₂
        | .ret v => Q (.ret v) h₂) h₁) h₀) h)
    (done : ∀ g vals N h, Inv src.len g vals N → St K g env vars vals caps N h → Q .next h) :
    Cp (model prog w) A (.forLoop target (.ref I) body [] env) Q h := fun s hs => by
  refine codeAny_forLoop_any (fun n s' => Same s s' ∧ ∃ i g vals N, n = src.len - i ∧ i ≤ src.len ∧ Inv i g vals N ∧ St K g env vars vals caps ((I, src.cn i) :: N) s'.heap) ?_ src.len
    ⟨Same.rfl' s, 0, g, vals, N, rfl, Nat.zero_le _, h0, hs ▸ S⟩
  rintro n s' ⟨e, i, g, vals, N, rfl, hi, hI, S⟩
  by_cases hl : i < src.len
  · refine (next_item (S.at (.head _)) (base i g vals N _ hI S) hl (Q := fun r h' => match r with | none => False | some v => src.item i v ∧ St K g env vars vals caps ((I, src.cn (i + 1)) :: N) h')
      (fun v h' hv hc hx => ⟨hv, S.upd .head hx hc⟩)).out rfl fun r s₁ e₁ q => ?_
    cases r with
    | none => exact q.elim
    | some v =>
      refine (turn i v g vals N _ hl q.1 hI q.2).out rfl fun _ s₁' e₁' q => q.out rfl fun _ s₂ e₂ q => q.out rfl fun f s₃ e₃ q => ?_
      have ee := (((e.trans e₁).trans e₁').trans e₂).trans e₃
      cases f with
      | next => obtain ⟨g', vals', N', hI', S'⟩ := q; exact ⟨_, by omega, ee, i + 1, g', vals', N', rfl, hl, hI', S'⟩
      | cont => obtain ⟨g', vals', N', hI', S'⟩ := q; exact ⟨_, by omega, ee, i + 1, g', vals', N', rfl, hl, hI', S'⟩
      | brk => exact ⟨_, rfl, ee, q⟩
      | ret v => exact ⟨_, rfl, ee, q⟩
  · have hn : i = src.len := by omega
    subst hn
    refine (next_end hA (S.at (.head _)) (base _ g vals N _ hI S) (Q := fun r h' => r = none ∧ St K g env vars vals caps N h') (fun h' hx => ⟨rfl, S.lose hx⟩)).out rfl fun r s₁ e₁ q => ?_
    obtain ⟨rfl, S'⟩ := q
    exact wpAny_execs_nil ⟨_, rfl, e.trans e₁, done g vals N _ hI S'⟩

theorem Wp_letOwned_Name {x p it v} {Q : Unit → Heap → Prop} (H : Q () h) : Wp (model prog w) A (letOwnedTupleGo (.Name x p) it v) Q h := Wp_pure H
theorem Wp_assign_Name {x p v} {Q : Unit → Heap → Prop} (H : Wp (model prog w) A (storeName env x v) Q h) : Wp (model prog w) A (assign (.Name x p) env v) Q h := fun s E e => wpAny_assign_Name (H s E e)
end

open PySem PySem.W PySem.Calls PyProof.Rows
set_option Elab.async false

section
variable {prog : Program} {w : World} {A : Around} {h : Heap} {env : Env} {K : Frag}

/-- a name's value in the module or among the built-ins -/
def GV (K : Frag) (x : Str) (v : Value) : Prop := nsIn K mainGlobals x = some (some v) ∨ (nsIn K mainGlobals x = some none ∧ bootBuiltins x = some v ∧ x ≠ "__name__")
theorem Wp_gv {g env vars vals caps N} {x : Str} {v : Value} {pos : Pos} {Q : Value → Heap → Prop} (S : St K g env vars vals caps N h) (e : GV K x v) (hk : env.kindOf x = some .globalImplicit) (H : Q v h) (hd : (x == ("__debug__" : Str)) = false := by decide) :
    Wp (model prog w) A (eval (.Name x pos) env) Q h := by
  rcases e with e | ⟨e, b, n⟩
  · exact Wp_glob S e hk H hd
  · exact Wp_boot S e b hk H n hd

theorem Wp_Sub {value slice pos} {Q : Value → Heap → Prop}
    (H : Wp (model prog w) A (eval value env) (fun o h₁ => Wp (model prog w) A (eval slice env) (fun i h₂ => Wp (model prog w) A (subscriptTail value slice o i) Q h₂) h₁) h) :
    Wp (model prog w) A (eval (.Subscript value slice pos) env) Q h := fun _ _ e => Subscript_ (H.out e fun _ _ e₁ q => q.out rfl fun _ _ e₂ q => q.out rfl fun _ _ e₃ q => ⟨(e₁.trans e₂).trans e₃, q⟩)

theorem Wp_item_list {value slice : Expr} {l : Addr} {xs : List Value} {k : Int} {t : Tok} {x : Value} {Q : Value → Heap → Prop} (hl : h.IsList l xs.toArray) (h0 : 0 ≤ k) (hx : xs[k.toNat]? = some x) (hfit : k < 2 ^ 63) (H : Q x h)
    (hs : subscripted slice false (.ref l) (.int k t) = operate [.ref l, .int k t] (getItem (.ref l) (.int k t)) := by with_unfolding_all rfl) :
    Wp (model prog w) A (subscriptTail value slice (.ref l) (.int k t)) Q h := fun s E e => by
  subst e
  exact tail_any hl.typeIs slot_list_getitem.lookup (wpAny_getItem_list hl h0 hfit (by simpa using hx) ⟨Same.rfl' s, H⟩) hs

theorem Wp_fdiv {a b : Int} {t u : Tok} {Q : Value → Heap → Prop} (hb : b ≠ 0) (hp : b.natAbs < 1073741824) (H : ∀ t, Q (.int (a.fdiv b) t) h) : Wp (model prog w) A (binaryOp .FloorDiv (.int a t) (.int b u)) Q h :=
  fun s _ hs => PyProof.Rows.floordiv_int hb ⟨Same.mk' s _ _, hs ▸ H _⟩ (Or.inl (PyProof.noPylong_small hp))
theorem Wp_iadd {a b : Int} {t u : Tok} {Q : Value → Heap → Prop} (H : ∀ t, Q (.int (a + b) t) h) : Wp (model prog w) A (inplaceOp .Add (.int a t) (.int b u)) Q h :=
  fun s _ hs => PyProof.Rows.iadd_int ⟨Same.mk' s _ _, hs ▸ H _⟩

theorem Wp_len_list {l : Addr} {xs : List Value} {Q : Value → Heap → Prop} (hl : h.IsList l xs.toArray) (hf : xs.length < 2 ^ 62) (H : ∀ t, Q (.int xs.length t) h) : Wp (model prog w) A (call (.builtin "len") [.ref l]) Q h := fun s E e => by
  subst e
  exact Calls.call_len_list hl (by simp; omega) ⟨Same.mk' s _ _, by simpa using H _⟩
end

-- the walk
local macro_rules | `(tactic| walk_at "at2") => `(tactic| with_reducible (first | exact At2.head | exact At2.tail At2.head | exact At2.tail (At2.tail At2.head) | exact At2.tail (At2.tail (At2.tail At2.head)) | exact At2.tail (At2.tail (At2.tail (At2.tail At2.head))) | exact At2.tail (At2.tail (At2.tail (At2.tail (At2.tail At2.head)))) | exact At2.tail (At2.tail (At2.tail (At2.tail (At2.tail (At2.tail At2.head))))) | exact At2.tail (At2.tail (At2.tail (At2.tail (At2.tail (At2.tail (At2.tail At2.head)))))) | exact At2.tail (At2.tail (At2.tail (At2.tail (At2.tail (At2.tail (At2.tail (At2.tail At2.head))))))) | exact At2.tail (At2.tail (At2.tail (At2.tail (At2.tail (At2.tail (At2.tail (At2.tail (At2.tail At2.head)))))))) | exact At2.tail (At2.tail (At2.tail (At2.tail (At2.tail (At2.tail (At2.tail (At2.tail (At2.tail (At2.tail At2.head))))))))) | exact At2.tail (At2.tail (At2.tail (At2.tail (At2.tail (At2.tail (At2.tail (At2.tail (At2.tail (At2.tail (At2.tail At2.head)))))))))) | exact At2.tail (At2.tail (At2.tail (At2.tail (At2.tail (At2.tail (At2.tail (At2.tail (At2.tail (At2.tail (At2.tail (At2.tail At2.head))))))))))) | exact At2.tail (At2.tail (At2.tail (At2.tail (At2.tail (At2.tail (At2.tail (At2.tail (At2.tail (At2.tail (At2.tail (At2.tail (At2.tail At2.head)))))))))))) | exact At2.tail (At2.tail (At2.tail (At2.tail (At2.tail (At2.tail (At2.tail (At2.tail (At2.tail (At2.tail (At2.tail (At2.tail (At2.tail (At2.tail At2.head))))))))))))) | exact At2.tail (At2.tail (At2.tail (At2.tail (At2.tail (At2.tail (At2.tail (At2.tail (At2.tail (At2.tail (At2.tail (At2.tail (At2.tail (At2.tail (At2.tail At2.head)))))))))))))) | exact At2.tail (At2.tail (At2.tail (At2.tail (At2.tail (At2.tail (At2.tail (At2.tail (At2.tail (At2.tail (At2.tail (At2.tail (At2.tail (At2.tail (At2.tail (At2.tail At2.head))))))))))))))) | exact At2.tail (At2.tail (At2.tail (At2.tail (At2.tail (At2.tail (At2.tail (At2.tail (At2.tail (At2.tail (At2.tail (At2.tail (At2.tail (At2.tail (At2.tail (At2.tail (At2.tail At2.head)))))))))))))))) | exact At2.tail (At2.tail (At2.tail (At2.tail (At2.tail (At2.tail (At2.tail (At2.tail (At2.tail (At2.tail (At2.tail (At2.tail (At2.tail (At2.tail (At2.tail (At2.tail (At2.tail (At2.tail At2.head))))))))))))))))) | exact At2.tail (At2.tail (At2.tail (At2.tail (At2.tail (At2.tail (At2.tail (At2.tail (At2.tail (At2.tail (At2.tail (At2.tail (At2.tail (At2.tail (At2.tail (At2.tail (At2.tail (At2.tail (At2.tail At2.head)))))))))))))))))) | exact At2.tail (At2.tail (At2.tail (At2.tail (At2.tail (At2.tail (At2.tail (At2.tail (At2.tail (At2.tail (At2.tail (At2.tail (At2.tail (At2.tail (At2.tail (At2.tail (At2.tail (At2.tail (At2.tail (At2.tail At2.head))))))))))))))))))) | exact At2.tail (At2.tail (At2.tail (At2.tail (At2.tail (At2.tail (At2.tail (At2.tail (At2.tail (At2.tail (At2.tail (At2.tail (At2.tail (At2.tail (At2.tail (At2.tail (At2.tail (At2.tail (At2.tail (At2.tail (At2.tail At2.head)))))))))))))))))))) | exact At2.tail (At2.tail (At2.tail (At2.tail (At2.tail (At2.tail (At2.tail (At2.tail (At2.tail (At2.tail (At2.tail (At2.tail (At2.tail (At2.tail (At2.tail (At2.tail (At2.tail (At2.tail (At2.tail (At2.tail (At2.tail (At2.tail At2.head))))))))))))))))))))) | exact At2.tail (At2.tail (At2.tail (At2.tail (At2.tail (At2.tail (At2.tail (At2.tail (At2.tail (At2.tail (At2.tail (At2.tail (At2.tail (At2.tail (At2.tail (At2.tail (At2.tail (At2.tail (At2.tail (At2.tail (At2.tail (At2.tail (At2.tail At2.head))))))))))))))))))))))))
local macro_rules | `(tactic| walk_at "put2") => `(tactic| with_reducible (first | exact Put2.head | exact Put2.tail Put2.head | exact Put2.tail (Put2.tail Put2.head) | exact Put2.tail (Put2.tail (Put2.tail Put2.head)) | exact Put2.tail (Put2.tail (Put2.tail (Put2.tail Put2.head))) | exact Put2.tail (Put2.tail (Put2.tail (Put2.tail (Put2.tail Put2.head)))) | exact Put2.tail (Put2.tail (Put2.tail (Put2.tail (Put2.tail (Put2.tail Put2.head))))) | exact Put2.tail (Put2.tail (Put2.tail (Put2.tail (Put2.tail (Put2.tail (Put2.tail Put2.head)))))) | exact Put2.tail (Put2.tail (Put2.tail (Put2.tail (Put2.tail (Put2.tail (Put2.tail (Put2.tail Put2.head))))))) | exact Put2.tail (Put2.tail (Put2.tail (Put2.tail (Put2.tail (Put2.tail (Put2.tail (Put2.tail (Put2.tail Put2.head)))))))) | exact Put2.tail (Put2.tail (Put2.tail (Put2.tail (Put2.tail (Put2.tail (Put2.tail (Put2.tail (Put2.tail (Put2.tail Put2.head))))))))) | exact Put2.tail (Put2.tail (Put2.tail (Put2.tail (Put2.tail (Put2.tail (Put2.tail (Put2.tail (Put2.tail (Put2.tail (Put2.tail Put2.head)))))))))) | exact Put2.tail (Put2.tail (Put2.tail (Put2.tail (Put2.tail (Put2.tail (Put2.tail (Put2.tail (Put2.tail (Put2.tail (Put2.tail (Put2.tail Put2.head))))))))))) | exact Put2.tail (Put2.tail (Put2.tail (Put2.tail (Put2.tail (Put2.tail (Put2.tail (Put2.tail (Put2.tail (Put2.tail (Put2.tail (Put2.tail (Put2.tail Put2.head)))))))))))) | exact Put2.tail (Put2.tail (Put2.tail (Put2.tail (Put2.tail (Put2.tail (Put2.tail (Put2.tail (Put2.tail (Put2.tail (Put2.tail (Put2.tail (Put2.tail (Put2.tail Put2.head))))))))))))) | exact Put2.tail (Put2.tail (Put2.tail (Put2.tail (Put2.tail (Put2.tail (Put2.tail (Put2.tail (Put2.tail (Put2.tail (Put2.tail (Put2.tail (Put2.tail (Put2.tail (Put2.tail Put2.head)))))))))))))) | exact Put2.tail (Put2.tail (Put2.tail (Put2.tail (Put2.tail (Put2.tail (Put2.tail (Put2.tail (Put2.tail (Put2.tail (Put2.tail (Put2.tail (Put2.tail (Put2.tail (Put2.tail (Put2.tail Put2.head))))))))))))))) | exact Put2.tail (Put2.tail (Put2.tail (Put2.tail (Put2.tail (Put2.tail (Put2.tail (Put2.tail (Put2.tail (Put2.tail (Put2.tail (Put2.tail (Put2.tail (Put2.tail (Put2.tail (Put2.tail (Put2.tail Put2.head)))))))))))))))) | exact Put2.tail (Put2.tail (Put2.tail (Put2.tail (Put2.tail (Put2.tail (Put2.tail (Put2.tail (Put2.tail (Put2.tail (Put2.tail (Put2.tail (Put2.tail (Put2.tail (Put2.tail (Put2.tail (Put2.tail (Put2.tail Put2.head))))))))))))))))) | exact Put2.tail (Put2.tail (Put2.tail (Put2.tail (Put2.tail (Put2.tail (Put2.tail (Put2.tail (Put2.tail (Put2.tail (Put2.tail (Put2.tail (Put2.tail (Put2.tail (Put2.tail (Put2.tail (Put2.tail (Put2.tail (Put2.tail Put2.head)))))))))))))))))) | exact Put2.tail (Put2.tail (Put2.tail (Put2.tail (Put2.tail (Put2.tail (Put2.tail (Put2.tail (Put2.tail (Put2.tail (Put2.tail (Put2.tail (Put2.tail (Put2.tail (Put2.tail (Put2.tail (Put2.tail (Put2.tail (Put2.tail (Put2.tail Put2.head))))))))))))))))))) | exact Put2.tail (Put2.tail (Put2.tail (Put2.tail (Put2.tail (Put2.tail (Put2.tail (Put2.tail (Put2.tail (Put2.tail (Put2.tail (Put2.tail (Put2.tail (Put2.tail (Put2.tail (Put2.tail (Put2.tail (Put2.tail (Put2.tail (Put2.tail (Put2.tail Put2.head)))))))))))))))))))) | exact Put2.tail (Put2.tail (Put2.tail (Put2.tail (Put2.tail (Put2.tail (Put2.tail (Put2.tail (Put2.tail (Put2.tail (Put2.tail (Put2.tail (Put2.tail (Put2.tail (Put2.tail (Put2.tail (Put2.tail (Put2.tail (Put2.tail (Put2.tail (Put2.tail (Put2.tail Put2.head))))))))))))))))))))) | exact Put2.tail (Put2.tail (Put2.tail (Put2.tail (Put2.tail (Put2.tail (Put2.tail (Put2.tail (Put2.tail (Put2.tail (Put2.tail (Put2.tail (Put2.tail (Put2.tail (Put2.tail (Put2.tail (Put2.tail (Put2.tail (Put2.tail (Put2.tail (Put2.tail (Put2.tail (Put2.tail Put2.head))))))))))))))))))))))))
local macro_rules | `(tactic| walk_at "lput") => `(tactic| with_reducible (first | exact LPut.head | exact LPut.tail LPut.head | exact LPut.tail (LPut.tail LPut.head) | exact LPut.tail (LPut.tail (LPut.tail LPut.head)) | exact LPut.tail (LPut.tail (LPut.tail (LPut.tail LPut.head))) | exact LPut.tail (LPut.tail (LPut.tail (LPut.tail (LPut.tail LPut.head)))) | exact LPut.tail (LPut.tail (LPut.tail (LPut.tail (LPut.tail (LPut.tail LPut.head))))) | exact LPut.tail (LPut.tail (LPut.tail (LPut.tail (LPut.tail (LPut.tail (LPut.tail LPut.head)))))) | exact LPut.tail (LPut.tail (LPut.tail (LPut.tail (LPut.tail (LPut.tail (LPut.tail (LPut.tail LPut.head))))))) | exact LPut.tail (LPut.tail (LPut.tail (LPut.tail (LPut.tail (LPut.tail (LPut.tail (LPut.tail (LPut.tail LPut.head)))))))) | exact LPut.tail (LPut.tail (LPut.tail (LPut.tail (LPut.tail (LPut.tail (LPut.tail (LPut.tail (LPut.tail (LPut.tail LPut.head))))))))) | exact LPut.tail (LPut.tail (LPut.tail (LPut.tail (LPut.tail (LPut.tail (LPut.tail (LPut.tail (LPut.tail (LPut.tail (LPut.tail LPut.head)))))))))) | exact LPut.tail (LPut.tail (LPut.tail (LPut.tail (LPut.tail (LPut.tail (LPut.tail (LPut.tail (LPut.tail (LPut.tail (LPut.tail (LPut.tail LPut.head))))))))))) | exact LPut.tail (LPut.tail (LPut.tail (LPut.tail (LPut.tail (LPut.tail (LPut.tail (LPut.tail (LPut.tail (LPut.tail (LPut.tail (LPut.tail (LPut.tail LPut.head)))))))))))) | exact LPut.tail (LPut.tail (LPut.tail (LPut.tail (LPut.tail (LPut.tail (LPut.tail (LPut.tail (LPut.tail (LPut.tail (LPut.tail (LPut.tail (LPut.tail (LPut.tail LPut.head))))))))))))) | exact LPut.tail (LPut.tail (LPut.tail (LPut.tail (LPut.tail (LPut.tail (LPut.tail (LPut.tail (LPut.tail (LPut.tail (LPut.tail (LPut.tail (LPut.tail (LPut.tail (LPut.tail LPut.head))))))))))))))))
local macro_rules | `(tactic| walk_at "mem") => `(tactic| with_reducible (first | exact List.mem_cons_self | exact List.mem_cons_of_mem _ List.mem_cons_self | exact List.mem_cons_of_mem _ (List.mem_cons_of_mem _ List.mem_cons_self) | exact List.mem_cons_of_mem _ (List.mem_cons_of_mem _ (List.mem_cons_of_mem _ List.mem_cons_self)) | exact List.mem_cons_of_mem _ (List.mem_cons_of_mem _ (List.mem_cons_of_mem _ (List.mem_cons_of_mem _ List.mem_cons_self))) | exact List.mem_cons_of_mem _ (List.mem_cons_of_mem _ (List.mem_cons_of_mem _ (List.mem_cons_of_mem _ (List.mem_cons_of_mem _ List.mem_cons_self)))) | exact List.mem_cons_of_mem _ (List.mem_cons_of_mem _ (List.mem_cons_of_mem _ (List.mem_cons_of_mem _ (List.mem_cons_of_mem _ (List.mem_cons_of_mem _ List.mem_cons_self))))) | exact List.mem_cons_of_mem _ (List.mem_cons_of_mem _ (List.mem_cons_of_mem _ (List.mem_cons_of_mem _ (List.mem_cons_of_mem _ (List.mem_cons_of_mem _ (List.mem_cons_of_mem _ List.mem_cons_self)))))) | exact List.mem_cons_of_mem _ (List.mem_cons_of_mem _ (List.mem_cons_of_mem _ (List.mem_cons_of_mem _ (List.mem_cons_of_mem _ (List.mem_cons_of_mem _ (List.mem_cons_of_mem _ (List.mem_cons_of_mem _ List.mem_cons_self))))))) | exact List.mem_cons_of_mem _ (List.mem_cons_of_mem _ (List.mem_cons_of_mem _ (List.mem_cons_of_mem _ (List.mem_cons_of_mem _ (List.mem_cons_of_mem _ (List.mem_cons_of_mem _ (List.mem_cons_of_mem _ (List.mem_cons_of_mem _ List.mem_cons_self)))))))) | exact List.mem_cons_of_mem _ (List.mem_cons_of_mem _ (List.mem_cons_of_mem _ (List.mem_cons_of_mem _ (List.mem_cons_of_mem _ (List.mem_cons_of_mem _ (List.mem_cons_of_mem _ (List.mem_cons_of_mem _ (List.mem_cons_of_mem _ (List.mem_cons_of_mem _ List.mem_cons_self))))))))) | exact List.mem_cons_of_mem _ (List.mem_cons_of_mem _ (List.mem_cons_of_mem _ (List.mem_cons_of_mem _ (List.mem_cons_of_mem _ (List.mem_cons_of_mem _ (List.mem_cons_of_mem _ (List.mem_cons_of_mem _ (List.mem_cons_of_mem _ (List.mem_cons_of_mem _ (List.mem_cons_of_mem _ List.mem_cons_self)))))))))) | exact List.mem_cons_of_mem _ (List.mem_cons_of_mem _ (List.mem_cons_of_mem _ (List.mem_cons_of_mem _ (List.mem_cons_of_mem _ (List.mem_cons_of_mem _ (List.mem_cons_of_mem _ (List.mem_cons_of_mem _ (List.mem_cons_of_mem _ (List.mem_cons_of_mem _ (List.mem_cons_of_mem _ (List.mem_cons_of_mem _ List.mem_cons_self))))))))))) | exact List.mem_cons_of_mem _ (List.mem_cons_of_mem _ (List.mem_cons_of_mem _ (List.mem_cons_of_mem _ (List.mem_cons_of_mem _ (List.mem_cons_of_mem _ (List.mem_cons_of_mem _ (List.mem_cons_of_mem _ (List.mem_cons_of_mem _ (List.mem_cons_of_mem _ (List.mem_cons_of_mem _ (List.mem_cons_of_mem _ (List.mem_cons_of_mem _ List.mem_cons_self)))))))))))) | exact List.mem_cons_of_mem _ (List.mem_cons_of_mem _ (List.mem_cons_of_mem _ (List.mem_cons_of_mem _ (List.mem_cons_of_mem _ (List.mem_cons_of_mem _ (List.mem_cons_of_mem _ (List.mem_cons_of_mem _ (List.mem_cons_of_mem _ (List.mem_cons_of_mem _ (List.mem_cons_of_mem _ (List.mem_cons_of_mem _ (List.mem_cons_of_mem _ (List.mem_cons_of_mem _ List.mem_cons_self))))))))))))) | exact List.mem_cons_of_mem _ (List.mem_cons_of_mem _ (List.mem_cons_of_mem _ (List.mem_cons_of_mem _ (List.mem_cons_of_mem _ (List.mem_cons_of_mem _ (List.mem_cons_of_mem _ (List.mem_cons_of_mem _ (List.mem_cons_of_mem _ (List.mem_cons_of_mem _ (List.mem_cons_of_mem _ (List.mem_cons_of_mem _ (List.mem_cons_of_mem _ (List.mem_cons_of_mem _ (List.mem_cons_of_mem _ List.mem_cons_self)))))))))))))) | exact List.mem_cons_of_mem _ (List.mem_cons_of_mem _ (List.mem_cons_of_mem _ (List.mem_cons_of_mem _ (List.mem_cons_of_mem _ (List.mem_cons_of_mem _ (List.mem_cons_of_mem _ (List.mem_cons_of_mem _ (List.mem_cons_of_mem _ (List.mem_cons_of_mem _ (List.mem_cons_of_mem _ (List.mem_cons_of_mem _ (List.mem_cons_of_mem _ (List.mem_cons_of_mem _ (List.mem_cons_of_mem _ (List.mem_cons_of_mem _ List.mem_cons_self))))))))))))))) | exact List.mem_cons_of_mem _ (List.mem_cons_of_mem _ (List.mem_cons_of_mem _ (List.mem_cons_of_mem _ (List.mem_cons_of_mem _ (List.mem_cons_of_mem _ (List.mem_cons_of_mem _ (List.mem_cons_of_mem _ (List.mem_cons_of_mem _ (List.mem_cons_of_mem _ (List.mem_cons_of_mem _ (List.mem_cons_of_mem _ (List.mem_cons_of_mem _ (List.mem_cons_of_mem _ (List.mem_cons_of_mem _ (List.mem_cons_of_mem _ (List.mem_cons_of_mem _ List.mem_cons_self)))))))))))))))) | exact List.mem_cons_of_mem _ (List.mem_cons_of_mem _ (List.mem_cons_of_mem _ (List.mem_cons_of_mem _ (List.mem_cons_of_mem _ (List.mem_cons_of_mem _ (List.mem_cons_of_mem _ (List.mem_cons_of_mem _ (List.mem_cons_of_mem _ (List.mem_cons_of_mem _ (List.mem_cons_of_mem _ (List.mem_cons_of_mem _ (List.mem_cons_of_mem _ (List.mem_cons_of_mem _ (List.mem_cons_of_mem _ (List.mem_cons_of_mem _ (List.mem_cons_of_mem _ (List.mem_cons_of_mem _ List.mem_cons_self))))))))))))))))) | exact List.mem_cons_of_mem _ (List.mem_cons_of_mem _ (List.mem_cons_of_mem _ (List.mem_cons_of_mem _ (List.mem_cons_of_mem _ (List.mem_cons_of_mem _ (List.mem_cons_of_mem _ (List.mem_cons_of_mem _ (List.mem_cons_of_mem _ (List.mem_cons_of_mem _ (List.mem_cons_of_mem _ (List.mem_cons_of_mem _ (List.mem_cons_of_mem _ (List.mem_cons_of_mem _ (List.mem_cons_of_mem _ (List.mem_cons_of_mem _ (List.mem_cons_of_mem _ (List.mem_cons_of_mem _ (List.mem_cons_of_mem _ List.mem_cons_self)))))))))))))))))) | exact List.mem_cons_of_mem _ (List.mem_cons_of_mem _ (List.mem_cons_of_mem _ (List.mem_cons_of_mem _ (List.mem_cons_of_mem _ (List.mem_cons_of_mem _ (List.mem_cons_of_mem _ (List.mem_cons_of_mem _ (List.mem_cons_of_mem _ (List.mem_cons_of_mem _ (List.mem_cons_of_mem _ (List.mem_cons_of_mem _ (List.mem_cons_of_mem _ (List.mem_cons_of_mem _ (List.mem_cons_of_mem _ (List.mem_cons_of_mem _ (List.mem_cons_of_mem _ (List.mem_cons_of_mem _ (List.mem_cons_of_mem _ (List.mem_cons_of_mem _ List.mem_cons_self))))))))))))))))))) | exact List.mem_cons_of_mem _ (List.mem_cons_of_mem _ (List.mem_cons_of_mem _ (List.mem_cons_of_mem _ (List.mem_cons_of_mem _ (List.mem_cons_of_mem _ (List.mem_cons_of_mem _ (List.mem_cons_of_mem _ (List.mem_cons_of_mem _ (List.mem_cons_of_mem _ (List.mem_cons_of_mem _ (List.mem_cons_of_mem _ (List.mem_cons_of_mem _ (List.mem_cons_of_mem _ (List.mem_cons_of_mem _ (List.mem_cons_of_mem _ (List.mem_cons_of_mem _ (List.mem_cons_of_mem _ (List.mem_cons_of_mem _ (List.mem_cons_of_mem _ (List.mem_cons_of_mem _ List.mem_cons_self)))))))))))))))))))) | exact List.mem_cons_of_mem _ (List.mem_cons_of_mem _ (List.mem_cons_of_mem _ (List.mem_cons_of_mem _ (List.mem_cons_of_mem _ (List.mem_cons_of_mem _ (List.mem_cons_of_mem _ (List.mem_cons_of_mem _ (List.mem_cons_of_mem _ (List.mem_cons_of_mem _ (List.mem_cons_of_mem _ (List.mem_cons_of_mem _ (List.mem_cons_of_mem _ (List.mem_cons_of_mem _ (List.mem_cons_of_mem _ (List.mem_cons_of_mem _ (List.mem_cons_of_mem _ (List.mem_cons_of_mem _ (List.mem_cons_of_mem _ (List.mem_cons_of_mem _ (List.mem_cons_of_mem _ (List.mem_cons_of_mem _ List.mem_cons_self))))))))))))))))))))) | exact List.mem_cons_of_mem _ (List.mem_cons_of_mem _ (List.mem_cons_of_mem _ (List.mem_cons_of_mem _ (List.mem_cons_of_mem _ (List.mem_cons_of_mem _ (List.mem_cons_of_mem _ (List.mem_cons_of_mem _ (List.mem_cons_of_mem _ (List.mem_cons_of_mem _ (List.mem_cons_of_mem _ (List.mem_cons_of_mem _ (List.mem_cons_of_mem _ (List.mem_cons_of_mem _ (List.mem_cons_of_mem _ (List.mem_cons_of_mem _ (List.mem_cons_of_mem _ (List.mem_cons_of_mem _ (List.mem_cons_of_mem _ (List.mem_cons_of_mem _ (List.mem_cons_of_mem _ (List.mem_cons_of_mem _ (List.mem_cons_of_mem _ List.mem_cons_self))))))))))))))))))))))))
local macro_rules | `(tactic| walk_at "gv") => `(tactic| fail "no name")
theorem relabel_lookup {scope : Scope} {env : Env} {x : Str} {k : NameKind} (h : scope.names.lookup x = some k) :
    (relabel scope env).names.lookup x = some k ∨ (k = .free ∧ (relabel scope env).names.lookup x = some .cell) := by
  unfold relabel
  simp only
  generalize scope.names = names at h
  induction names with
  | nil => cases h
  | cons p r ih =>
    obtain ⟨n, q⟩ := p
    rw [List.lookup_cons] at h
    rw [List.map_cons]
    cases hb : x == n with
    | true =>
      rw [hb] at h
      cases h
      simp only
      split
      · rename_i hc
        simp only [Bool.and_eq_true] at hc
        right
        refine ⟨by simpa using hc.1.1, ?_⟩
        rw [List.lookup_cons, hb]
      · left; rw [List.lookup_cons, hb]
    | false =>
      rw [hb] at h
      have := ih h
      simp only
      split <;> (rw [List.lookup_cons, hb]; exact this)

theorem kindOf_rel {cenv env : Env} {scope : Scope} {x : Str} {k : NameKind} (e : cenv.scope = relabel scope env) (l : scope.names.lookup x = some k) (hk : k ≠ .free) : cenv.kindOf x = some k := by
  unfold Env.kindOf; rw [e]
  rcases relabel_lookup (env := env) l with r | ⟨r, _⟩
  · exact r
  · exact absurd r hk
local macro_rules | `(tactic| walk_at "kind") => `(tactic| first | exact kindOf_of (by assumption) (by rfl) | exact kindOf_rel (by assumption) (by rfl) (by decide))
set_option hygiene false in
local macro_rules | `(tactic| walk_at "name") => `(tactic| first
  | (refine' Wp_var S ?q1 ?_ ?q2; (case q1 => walk_at "at2"); (case q2 => with_unfolding_all decide))
  | (refine' Wp_cap S ?q1 ?_ ?q2 ?q3; (case q1 => walk_at "mem"); (case q2 => with_unfolding_all decide); (case q3 => with_unfolding_all decide))
  | (refine' Wp_gv S ?q1 ?q2 ?_ ?q3; (case q1 => with_reducible (walk_at "gv")); (case q2 => with_unfolding_all (walk_at "kind")); (case q3 => with_unfolding_all decide)))
set_option hygiene false in
local macro_rules | `(tactic| walk_at "store") => `(tactic| (refine' Wp_store S ?q1 ?_; (case q1 => walk_at "put2"); clear S; intro h S))
set_option hygiene false in
local macro_rules | `(tactic| walk_at "m") => `(tactic| with_reducible first
  | refine Wp_execs_cons ?_
  | refine Wp_execs_nil ?_
  | refine Wp_Assign_Name ?_ (by with_unfolding_all rfl)
  | (show Wp _ _ (eval (PySem.Expr.Name _ _) _) _ _; walk_at "name")
  | walk_at "store"
  | refine Wp_If ?_
  | refine Wp_tCompare ?_
  | refine Wp_tNot ?_
  | refine Wp_tBool ?_
  | refine Wp_Return ?_
  | refine Wp_BinOp ?_
  | refine Wp_Compare ?_
  | (refine Wp_int ?_; intro t)
  | refine Wp_none ?_
  | refine Wp_bool ?_
  | (refine Wp_add ?_; intro t)
  | (refine Wp_sub ?_; intro t)
  | refine Wp_lt ?_
  | refine Wp_le ?_
  | refine Wp_gt ?_
  | refine Wp_ge ?_
  | refine Wp_eq ?_
  | refine Wp_ne ?_
  | refine Wp_truthy_bool ?_
  | refine Wp_Call ?_
  | refine Wp_args_cons ?_ (by with_unfolding_all rfl)
  | refine Wp_args_nil ?_
  | refine Wp_Sub ?_
  | refine Wp_IfExp ?_
  | refine Wp_While ?_
  | refine Wp_For ?_ (by intro _; with_unfolding_all rfl)
  | refine Wp_AugAssign_Name ?_
  | (refine' Wp_loadVar S ?q1 ?_; (case q1 => walk_at "at2"))
  | (refine Wp_iadd ?_; intro t)
  | refine Wp_letOwned_Name ?_
  | refine Wp_assign_Name ?_
  | refine Wp_List ?_
  | refine Wp_Tuple ?_
  | refine Wp_UnaryOp ?_
  | (refine Wp_neg ?_; intro t)
  | (refine Wp_fdiv (by with_unfolding_all decide) (by with_unfolding_all decide) ?_; intro t)
  | refine Wp_is (by with_unfolding_all rfl) ?_
  | refine Wp_isNot (by with_unfolding_all rfl) ?_
  | refine Wp_else (by with_unfolding_all rfl) ?_
  | refine Wp_then (by with_unfolding_all rfl) ?_
  | refine Wp_else (decide_eq_false (by omega)) ?_
  | refine Wp_then (decide_eq_true (by omega)) ?_)

open PySem PySem.W PySem.Calls PyProof.Rows
set_option Elab.async false
theorem bindsPeek {K : Frag} {s : Shared} {fd : FuncData} {args : Args} {binds : List (Str × Value)} (x : K.In s.heap) (e : ∀ S, peek K S (bindArgs fd args) = some binds) : BindsTo s fd args binds :=
  fun M A E Q q Γ p _ => wp_of_peek (M := M) (Γ := Γ) (Q := fun a _ s' => Q a s') (E := fun e _ s' => E e s') x q _ (e _)

/-- binary search by a road: to the right where it says so -/
def bs (right : Nat → Bool) (lo hi : Nat) : Nat :=
  if lo < hi then (if right ((lo + hi) / 2) then bs right ((lo + hi) / 2 + 1) hi else bs right lo ((lo + hi) / 2)) else lo
termination_by hi - lo
decreasing_by all_goals omega

theorem bs_done {R : Nat → Bool} {lo hi : Nat} (h : ¬ lo < hi) : bs R lo hi = lo := by rw [bs, if_neg h]
theorem bs_right {R : Nat → Bool} {lo hi : Nat} (h : lo < hi) (r : R ((lo + hi) / 2) = true) : bs R lo hi = bs R ((lo + hi) / 2 + 1) hi := by rw [bs, if_pos h, if_pos r]
theorem bs_left {R : Nat → Bool} {lo hi : Nat} (h : lo < hi) (r : R ((lo + hi) / 2) = false) : bs R lo hi = bs R lo ((lo + hi) / 2) := by rw [bs, if_pos h, if_neg (by rw [r]; decide)]
theorem mid_eq (lo hi : Nat) : ((lo : Int) + (hi : Int)).fdiv 2 = ((lo + hi) / 2 : Nat) := by
  rw [Int.fdiv_eq_ediv_of_nonneg _ (by omega)]; omega
theorem intsAt {vs : List Value} {ns : List Int} (h : IntsAre vs ns) {i : Nat} (hi : i < ns.length) : ∃ t, vs[i]? = some (.int (ns.getD i 0) t) := by
  obtain ⟨t, ht⟩ := h.get i (ns.getD i 0) (by simp [hi])
  exact ⟨t, ht⟩
theorem Wp_mid {prog : Program} {w : World} {A : Around} {h : Heap} {lo hi : Nat} {t u : Tok} {Q : Value → Heap → Prop} (H : ∀ t, Q (.int ((lo + hi) / 2 : Nat) t) h) :
    Wp (model prog w) A (binaryOp .FloorDiv (.int ((lo : Int) + (hi : Int)) t) (.int 2 u)) Q h := Wp_fdiv (by decide) (by decide) (fun t => by rw [mid_eq]; exact H t)
theorem isListExt {h h' : Heap} {a : Addr} {xs : Array Value} (x : h.IsList a xs) (e : Ext h h') : h'.IsList a xs := let ⟨o, p, q⟩ := x; ⟨o, e _ _ p, q⟩
/-- what a def's body hands on -/
def flowVal : Flow → Value
  | .ret v => v
  | _ => .none
theorem Wp_enter {prog : Program} {w : World} {A : Around} {h : Heap} {K : Frag} {g : Heap} {N : List (Addr × Cn)} {n : Nat} {name qual : Str} {params : Arguments} {body : List Stmt} {scope : Scope} {dV kV doc pm cdv ct oc : Value} {an od : Option Addr} {osl : Array (Option Value)} {f : Addr} {pos : List Value} {kw : List (Str × Value)} {Q : Value → Heap → Prop}
    (vars : List Str) (binds : List (Str × Value)) (vals : List (Option Value)) (wd : Wd K g) (keep : Ext g h) (hN : ∀ p ∈ N, IsAt h p.1 p.2 ∧ g.get? p.1 = none) (ndN : (N.map (·.1)).Nodup) (hA : Ok A (n + 1))
    (ho : K.lookup f = some ⟨oc, od, .func (fnOf name qual params body scope dV kV doc pm an cdv ct), osl⟩) (hcd : codeIn K cdv qual = true)
    (hbind : ∀ S, peek K S (bindArgs (fnOf name qual params body scope dV kV doc pm an cdv ct) ⟨pos, kw⟩) = some binds) (hvals : bindVals vars binds = vals)
    (hkind : (binds.all fun y => scope.names.lookup y.1 == some .local || scope.names.lookup y.1 == some .cell) = true)
    (hv : (vars.all fun y => scope.names.lookup y == some .local || scope.names.lookup y == some .cell) = true) (hnd : vars.Nodup)
    (H : ∀ (e : Env) h₁, e.scope = scope → Ext h h₁ → h.get? e.locals = none → Ok (A.deeper e) n → St K g e vars vals [] N h₁ →
      Wp (model prog w) (A.deeper e) (execs body e) (fun fl h₂ => Q (flowVal fl) h₂) h₁)
    (hco : scope.isCoroutine = false := by rfl) (hgen : scope.isGenerator = false := by rfl) (hk : scope.kind = .function := by rfl) :
    Wp (model prog w) A (call (.ref f) pos kw) Q h := by
  subst hvals
  refine Wp_call (Cp_enter vars wd keep hN ndN hA ho hcd (fun s hs => bindsPeek (hs ▸ wd.K.keeps keep) hbind) hkind hv hnd (fun e h₁ a b c d S => (H e h₁ a b c d S).mono fun fl h₂ q => ?_) hco hgen hk)
  exact ⟨_, rfl, by cases fl <;> exact q⟩

open PySem PySem.W PySem.Calls PyProof.Rows
set_option Elab.async false

/- the tests of a clause -/
def tests (ifs : List Expr) (env : Env) : Sem Bool :=
  forIn ifs true fun c r => if r = true then do let ok ← isTrue c env (eval c env); pure (ForInStep.yield ok) else pure (ForInStep.yield r)

section
variable {prog : Program} {w : World} {A : Around} {h : Heap} {env : Env}
theorem Wp_tests_nil {Q : Bool → Heap → Prop} (H : Q true h) : Wp (model prog w) A (tests [] env) Q h := Wp_pure H
theorem Wp_tests_one {c : Expr} {Q : Bool → Heap → Prop} (H : Wp (model prog w) A (isTrue c env (eval c env)) Q h) : Wp (model prog w) A (tests [c] env) Q h :=
  fun _ _ e => wpAny_tests_one (H.out e fun _ _ e q => ⟨e, q⟩)

def emitS (elt : Expr) (acc : Value) (env : Env) : Sem Unit := do let _ ← call (.builtin "list.append") [acc, ← eval elt env]
theorem Wp_emit {elt : Expr} {acc : Value} {Q : Unit → Heap → Prop} (H : Wp (model prog w) A (eval elt env) (fun x h₁ => Wp (model prog w) A (call (.builtin "list.append") [acc, x]) (fun _ => Q ()) h₁) h) :
    Wp (model prog w) A (emitS elt acc env) Q h := Wp_bind (H.mono fun _ _ H₁ => Wp_bind (H₁.mono fun _ _ q => Wp_pure q))

/-- one turn of a comprehension's clause -/
def turnS (p : Pos) (target : Expr) (ifs : List Expr) (emit : Sem Fin) (c : Code) (it : Value) (env : Env) : Sem Fin := do
  standAt p
  match ← pyNext it with
  | none => pure (.done .next)
  | some v =>
    letOwnedTupleGo target it v
    assign target env v
    let ok ← tests ifs env
    if ok then emit else again c

theorem turn1 (elt target iter : Expr) (ifs : List Expr) (scope : Scope) (pos : Pos) (it acc : Value) (env : Env) :
    compTurn (.ListComp elt [⟨target, iter, ifs, 0⟩] scope pos) 0 it acc env =
      turnS iter.pos target ifs (emitS elt acc env >>= fun _ => again (.compLoop (.ListComp elt [⟨target, iter, ifs, 0⟩] scope pos) 0 it acc env)) (.compLoop (.ListComp elt [⟨target, iter, ifs, 0⟩] scope pos) 0 it acc env) it env := rfl
theorem turn2b (elt target iter : Expr) (ifs : List Expr) (g₀ : Comprehension) (scope : Scope) (pos : Pos) (it acc : Value) (env : Env) :
    compTurn (.ListComp elt [g₀, ⟨target, iter, ifs, 0⟩] scope pos) 1 it acc env =
      turnS iter.pos target ifs (emitS elt acc env >>= fun _ => again (.compLoop (.ListComp elt [g₀, ⟨target, iter, ifs, 0⟩] scope pos) 1 it acc env)) (.compLoop (.ListComp elt [g₀, ⟨target, iter, ifs, 0⟩] scope pos) 1 it acc env) it env := rfl
def innerS (elt : Expr) (gens : List Comprehension) (scope : Scope) (pos : Pos) (iter : Expr) (acc : Value) (env : Env) (c : Code) : Sem Fin := do
  let x ← eval iter env
  standAt iter.pos
  let x ← foldedSetIterable iter env x
  let _ ← runOwn (.compStart (.ListComp elt gens scope pos) 1 (← holding [x] (pyIter x)) acc env) env
  again c
theorem turn2a (elt target iter target' iter' : Expr) (ifs ifs' : List Expr) (scope : Scope) (pos : Pos) (it acc : Value) (env : Env) :
    compTurn (.ListComp elt [⟨target, iter, ifs, 0⟩, ⟨target', iter', ifs', 0⟩] scope pos) 0 it acc env =
      turnS iter.pos target ifs (innerS elt [⟨target, iter, ifs, 0⟩, ⟨target', iter', ifs', 0⟩] scope pos iter' acc env (.compLoop (.ListComp elt [⟨target, iter, ifs, 0⟩, ⟨target', iter', ifs', 0⟩] scope pos) 0 it acc env)) (.compLoop (.ListComp elt [⟨target, iter, ifs, 0⟩, ⟨target', iter', ifs', 0⟩] scope pos) 0 it acc env) it env := rfl
end

section
variable {prog : Program} {w : World} {A : Around} {K : Frag} {g h : Heap} {env : Env} {vars : List Str} {vals : List (Option Value)} {caps : List (Str × Value)} {N : List (Addr × Cn)}

theorem Cp_compLoop {elt target : Expr} {gens : List Comprehension} {scope : Scope} {pos : Pos} {ifs : List Expr} {emit : Sem Fin} {p : Pos} {d : Nat} {acc : Value} {Q : Flow → Heap → Prop} {I : Addr}
    (heq : compTurn (.ListComp elt gens scope pos) d (.ref I) acc env = turnS p target ifs emit (.compLoop (.ListComp elt gens scope pos) d (.ref I) acc env) (.ref I) env)
    (src : Src) (Inv : Nat → Heap → List (Option Value) → List (Addr × Cn) → Prop) (hA : A.handled = none)
    (S : St K g env vars vals caps ((I, src.cn 0) :: N) h) (h0 : Inv 0 g vals N)
    (base : ∀ i g vals N h, Inv i g vals N → St K g env vars vals caps ((I, src.cn i) :: N) h → src.base h)
    (turn : ∀ i v g vals N h, i < src.len → src.item i v → Inv i g vals N → St K g env vars vals caps ((I, src.cn (i + 1)) :: N) h →
      Wp (model prog w) A (letOwnedTupleGo target (.ref I) v) (fun _ h₀ => Wp (model prog w) A (assign target env v) (fun _ h₁ => Wp (model prog w) A (tests ifs env) (fun ok h₂ =>
        Wp (model prog w) A (cond ok emit (again (.compLoop (.ListComp elt gens scope pos) d (.ref I) acc env))) (fun fin h₃ => fin = .again (.compLoop (.ListComp elt gens scope pos) d (.ref I) acc env) ∧
          ∃ g' vals' N', Inv (i + 1) g' vals' N' ∧ St K g' env vars vals' caps ((I, src.cn (i + 1)) :: N') h₃) h₂) h₁) h₀) h)
    (done : ∀ g vals N h, Inv src.len g vals N → St K g env vars vals caps N h → Q .next h) :
    Cp (model prog w) A (.compLoop (.ListComp elt gens scope pos) d (.ref I) acc env) Q h := fun s hs => by
  refine codeAny_loop rfl (fun n s' => Same s s' ∧ ∃ i g vals N, n = src.len - i ∧ i ≤ src.len ∧ Inv i g vals N ∧ St K g env vars vals caps ((I, src.cn i) :: N) s'.heap) (fun n s' hI => ?_) src.len
    ⟨Same.rfl' s, 0, g, vals, N, rfl, Nat.zero_le _, h0, hs ▸ S⟩
  obtain ⟨e₀, i, g, vals, N, rfl, hi, hI, S⟩ := hI
  show wpAny _ A ((compTurn (.ListComp elt gens scope pos) d (.ref I) acc env).onRaise (fun x => do noteFrame x env; theTreesLotGoes x)) _ _ s'
  refine wpAny_noted ?_
  rw [heq]
  unfold turnS
  refine wpAny_bind (wpAny_standAt (wpAny_bind ?_))
  by_cases hl : i < src.len
  · refine (next_item (S.at (.head _)) (base i g vals N _ hI S) hl (Q := fun r h' => match r with | none => False | some v => src.item i v ∧ St K g env vars vals caps ((I, src.cn (i + 1)) :: N) h')
      (fun v h' hv hc hx => ⟨hv, S.upd .head hx hc⟩)).out rfl fun r s₁ e₁ q => ?_
    cases r with
    | none => exact q.elim
    | some v =>
      refine wpAny_bind ((turn i v g vals N _ hl q.1 hI q.2).out rfl fun _ s₁' e₁' q => wpAny_bind (q.out rfl fun _ s₂ e₂ q => ?_))
      refine wpAny_bind (q.out rfl fun ok s₃ e₃ q => ?_)
      have ee := (((e₀.trans e₁).trans e₁').trans e₂).trans e₃
      cases ok with
      | true =>
        refine q.out rfl fun fin s₄ e₄ q => ?_
        obtain ⟨rfl, g', vals', N', hI', S'⟩ := q
        exact ⟨rfl, _, by omega, ee.trans e₄, i + 1, g', vals', N', rfl, hl, hI', S'⟩
      | false =>
        refine q.out rfl fun fin s₄ e₄ q => ?_
        obtain ⟨rfl, g', vals', N', hI', S'⟩ := q
        exact ⟨rfl, _, by omega, ee.trans e₄, i + 1, g', vals', N', rfl, hl, hI', S'⟩
  · have hn : i = src.len := by omega
    subst hn
    refine (next_end hA (S.at (.head _)) (base _ g vals N _ hI S) (Q := fun r h' => r = none ∧ St K g env vars vals caps N h') (fun h' hx => ⟨rfl, S.lose hx⟩)).out rfl fun r s₁ e₁ q => ?_
    obtain ⟨rfl, S'⟩ := q
    exact wpAny_pure ⟨_, rfl, e₀.trans e₁, done g vals N _ hI S'⟩
end

open PySem PySem.W PySem.Calls PyProof.Rows
set_option Elab.async false

def clOf (env : Env) : List (Str × NameKind) → List (Str × Addr) → List (Str × Addr)
  | [], acc => acc
  | (n, k) :: r, acc => if k == .free then clOf env r ((n, (env.cells.lookup n).getD 0) :: acc) else clOf env r acc

theorem closure_loop {env : Env} : ∀ (names : List (Str × NameKind)) (acc : List (Str × Addr)), (∀ x ∈ names, x.2 = .free → (env.cells.lookup x.1).isSome = true) →
    (forIn names acc fun (x : Str × NameKind) cs => if (x.2 == NameKind.free) = true then do let a ← cellOf env x.1; pure (ForInStep.yield ((x.1, a) :: cs)) else pure (ForInStep.yield cs) : Sem (List (Str × Addr))) = pure (clOf env names acc)
  | [], acc, _ => rfl
  | (n, k) :: r, acc, h => by
    rw [List.forIn_cons]
    unfold clOf
    by_cases hk : (k == NameKind.free) = true
    · obtain ⟨c, hc⟩ := Option.isSome_iff_exists.mp (h (n, k) (.head _) (by simpa using hk))
      simp only [hk, if_true]
      have : cellOf env n = pure c := by unfold cellOf; rw [hc]
      rw [this, hc]
      exact closure_loop r _ fun x hx => h x (.tail _ hx)
    · simp only [hk]
      exact closure_loop r _ fun x hx => h x (.tail _ hx)

theorem closureFor_eq {scope : Scope} {env : Env} (h : ∀ x ∈ scope.names, x.2 = .free → (env.cells.lookup x.1).isSome = true) : closureFor scope env = pure (clOf env scope.names []) := by
  have := closure_loop scope.names [] h
  unfold closureFor
  first
    | (refine Eq.trans (congrArg (fun m => m >>= pure) this) rfl)
    | (rw [← this]; rfl)

theorem clOf_entries {env : Env} : ∀ (names : List (Str × NameKind)) (acc : List (Str × Addr)), (∀ x ∈ names, x.2 = .free → (env.cells.lookup x.1).isSome = true) → (∀ p ∈ acc, env.cells.lookup p.1 = some p.2) →
    (∀ p ∈ clOf env names acc, env.cells.lookup p.1 = some p.2) ∧ (∀ x, (x, NameKind.free) ∈ names → x ∈ (clOf env names acc).map (·.1)) ∧ (∀ x ∈ acc.map (·.1), x ∈ (clOf env names acc).map (·.1))
  | [], acc, _, ha => ⟨ha, fun _ hx => (nomatch hx), fun _ hx => hx⟩
  | (n, k) :: r, acc, h, ha => by
    unfold clOf
    by_cases hk : (k == NameKind.free) = true
    · obtain ⟨c, hc⟩ := Option.isSome_iff_exists.mp (h (n, k) (.head _) (by simpa using hk))
      rw [if_pos hk, hc]
      obtain ⟨i1, i2, i3⟩ := clOf_entries r ((n, c) :: acc) (fun x hx => h x (.tail _ hx)) (fun p hp => by
        rcases List.mem_cons.mp hp with rfl | hp
        · exact hc
        · exact ha p hp)
      refine ⟨i1, fun x hx => ?_, fun x hx => i3 x (.tail _ hx)⟩
      rcases List.mem_cons.mp hx with e | hx
      · cases e; exact i3 _ (.head _)
      · exact i2 x hx
    · rw [if_neg hk]
      obtain ⟨i1, i2, i3⟩ := clOf_entries r acc (fun x hx => h x (.tail _ hx)) ha
      refine ⟨i1, fun x hx => ?_, i3⟩
      rcases List.mem_cons.mp hx with e | hx
      · cases e; exact absurd rfl hk
      · exact i2 x hx

theorem lookup_some_of {α : Type} {f : Str → Option α} : ∀ {l : List (Str × α)} {x : Str}, (∀ p ∈ l, f p.1 = some p.2) → x ∈ l.map (·.1) → l.lookup x = f x
  | [], _, _, hx => (nomatch hx)
  | (n, a) :: r, x, h, hx => by
    rw [List.lookup_cons]
    cases hb : x == n with
    | true =>
      have e : x = n := beq_iff_eq.mp hb
      subst e
      exact (h _ (.head _)).symm
    | false =>
      simp only
      refine lookup_some_of (fun p hp => h p (.tail _ hp)) ?_
      rcases List.mem_cons.mp hx with e | hx
      · simp only at e; subst e; simp at hb
      · exact hx

theorem cellsFrom_append : ∀ (names : List (Str × NameKind)) (n : Nat) (acc : List (Str × Addr)), cellsFrom n names acc = cellsFrom n names [] ++ acc
  | [], n, acc => rfl
  | (x, k) :: r, n, acc => by
    unfold cellsFrom
    by_cases hk : (k == NameKind.cell) = true
    · rw [if_pos hk, if_pos hk, cellsFrom_append r (n + 1) ((x, n) :: acc), cellsFrom_append r (n + 1) [(x, n)]]; simp
    · rw [if_neg hk, if_neg hk]; exact cellsFrom_append r n acc
theorem cellsFrom_names : ∀ (names : List (Str × NameKind)) (n : Nat) (p : Str × Addr), p ∈ cellsFrom n names [] → (p.1, NameKind.cell) ∈ names
  | [], n, p, h => (nomatch h)
  | (x, k) :: r, n, p, h => by
    unfold cellsFrom at h
    by_cases hk : (k == NameKind.cell) = true
    · rw [if_pos hk, cellsFrom_append] at h
      rcases List.mem_append.mp h with h | h
      · exact .tail _ (cellsFrom_names r _ p h)
      · simp at h; subst h; have : k = NameKind.cell := by simpa using hk
        subst this; exact .head _
    · rw [if_neg hk] at h; exact .tail _ (cellsFrom_names r n p h)

theorem lookup_mem {α : Type} [DecidableEq α] : ∀ {l : List (Str × α)} {x : Str} {a : α}, (l.map (·.1)).Nodup → (x, a) ∈ l → l.lookup x = some a
  | (n, b) :: r, x, a, nd, h => by
    rw [List.lookup_cons]
    obtain ⟨n1, n2⟩ := List.nodup_cons.mp nd
    rcases List.mem_cons.mp h with e | hm
    · cases e; simp
    · clear h
      have : (x == n) = false := by
        cases hb : x == n with
        | false => rfl
        | true =>
          have e : x = n := beq_iff_eq.mp hb
          subst e
          exact absurd (List.mem_map_of_mem (f := (·.1)) hm) n1
      rw [this]; exact lookup_mem n2 hm

section
variable {M : Model} {A : Around} {E : Value → Shared → Prop} {s : Shared}
theorem wpAny_newCompEnv {scope : Scope} {cl : List (Str × Addr)} {env : Env} {Q : Env → Shared → Prop}
    (H : Q { scope := scope, locals := s.heap.objs.size, globals := env.globals, cells := cellsFrom (s.heap.objs.size + 1) scope.names [] ++ cl, qual := env.qual, func := none, code := env.code, frame := env.frame, builtins := env.builtins }
      { s with heap := pushCells (s.heap.push { cls := .type "dict", data := .dict #[] }) scope.names }) :
    wpAny M A (newFunctionEnv scope env.globals cl [] env.qual none .none (some env)) Q E s := by
  simp only [newFunctionEnv, Option.isSome_some, if_true]
  refine wpAny_bind (wpAny_alloc ?_)
  refine wpAny_bind (wpAny_layCells _ (fun name kind cells => by cases hkc : kind == NameKind.cell <;> simp [hkc]) _ _ _ _ ?_)
  refine wpAny_bind (wpAny_pure (wpAny_pure ?_))
  have e1 : ({ s with heap := s.heap.push { cls := .type "dict", data := .dict #[] } } : Shared).heap.objs.size = s.heap.objs.size + 1 := Heap.size_push ..
  rw [e1, cellsFrom_append]
  exact H
end

open PySem PySem.W PySem.Calls PyProof.Rows
set_option Elab.async false

/-- captured values -/
def CapOk (env : Env) (h : Heap) (p : Str × Value) : Prop := ∃ c, env.cells.lookup p.1 = some c ∧ h.IsCell c (some p.2)
inductive CapsOk (env : Env) (h : Heap) : List (Str × Value) → Prop
  | nil : CapsOk env h []
  | cons {p r} : CapOk env h p → CapsOk env h r → CapsOk env h (p :: r)
theorem CapsOk.all {env h l} (c : CapsOk env h l) : ∀ p ∈ l, CapOk env h p := by
  induction c with
  | nil => intro p hp; cases hp
  | cons a _ ih => intro p hp; rcases List.mem_cons.mp hp with rfl | hp; exact a; exact ih p hp

section
variable {K : Frag} {g h : Heap} {env : Env} {vars : List Str} {vals : List (Option Value)} {caps : List (Str × Value)} {N : List (Addr × Cn)}
theorem St.capVar (S : St K g env vars vals caps N h) {x : Str} {v : Value} (hk : env.kindOf x = some .cell) (a : At2 vars vals x v) : CapOk env h (x, v) := by
  rcases S.kind x a.mem with q | ⟨_, c, u, hc, _, _, hi, hu⟩
  · rw [hk] at q; cases q
  · have := hu v a; subst this; exact ⟨c, hc, hi⟩
theorem St.capCap (S : St K g env vars vals caps N h) {x : Str} {v : Value} (a : (x, v) ∈ caps) : CapOk env h (x, v) := by
  obtain ⟨_, c, hc, hi⟩ := S.caps _ a
  exact ⟨c, hc, hi.keeps S.keep⟩
/-- every free name of the scope has a cell -/
theorem St.free (S : St K g env vars vals caps N h) {sc scope : Scope} (hsc : env.scope = sc)
    (e : (scope.names.all fun x => x.2 != .free || (vars.contains x.1 && sc.names.lookup x.1 == some .cell) || (caps.map (·.1)).contains x.1) = true) :
    ∀ x ∈ scope.names, x.2 = .free → (env.cells.lookup x.1).isSome = true := fun x hx hf => by
  have := List.all_eq_true.mp e x hx
  simp only [Bool.or_eq_true, Bool.and_eq_true, List.contains_iff_mem] at this
  rcases this with (q | ⟨q, q'⟩) | q
  · rw [hf] at q; exact absurd q (by decide)
  · have hk : env.kindOf x.1 = some .cell := kindOf_of hsc (by simpa using q')
    rcases S.kind x.1 q with r | ⟨_, c, _, hc, _⟩
    · rw [hk] at r; cases r
    · rw [hc]; rfl
  · obtain ⟨p, hp, e'⟩ := List.mem_map.mp q
    obtain ⟨_, c, hc, _⟩ := S.caps p hp
    rw [← e', hc]; rfl

theorem St.push' {h' : Heap} {I D : Addr} {c d : Cn} (S : St K g env vars vals caps ((I, c) :: N) h) (e : Heap.ExtBut I h h') (hD : h.get? D = none) (hd : IsAt h' D d) : St K g env vars vals caps ((D, d) :: N) h' := by
  have S' := S.lose e
  refine { S' with news := fun p hp => ?_, nodN := ?_ }
  · rcases List.mem_cons.mp hp with rfl | hp
    · refine ⟨hd, fun q => ?_, ?_, fun x hx hk hl => ?_⟩
      · obtain ⟨o, ho⟩ := S.locals_some; rw [← q] at ho; simp only at ho; rw [hD] at ho; cases ho
      · cases q : g.get? D with
        | none => rfl
        | some o => have := S.keep _ _ q; rw [hD] at this; cases this
      · rcases S.kind x hx with q | ⟨_, c', u, p, _, _, ⟨o, ho, _⟩, _⟩
        · rw [hk] at q; cases q
        · rw [hl] at p; cases p; simp only at ho; rw [hD] at ho; cases ho
    · exact S'.news p hp
  · refine List.nodup_cons.mpr ⟨fun q => ?_, S'.nodN⟩
    obtain ⟨p, hp, e'⟩ := List.mem_map.mp q
    obtain ⟨o, ho⟩ := (S.news p (.tail _ hp)).1.some
    rw [e', hD] at ho; cases ho

/-- an object that the frame does not know is changed -/
theorem St.other {h' : Heap} {C : Addr} {h₀ : Heap} {N₀ vals₀} (S : St K g env vars vals caps N h) (S₀ : St K g env vars vals₀ caps N₀ h₀) (hC : h₀.get? C = none) (hN : ∀ p ∈ N, p.1 ≠ C) (e : Heap.SameBut C h h') : St K g env vars vals caps N h' := by
  have hCL : C ≠ env.locals := fun q => by obtain ⟨o, ho⟩ := S₀.locals_some; rw [← q, hC] at ho; cases ho
  have hCg : g.get? C = none := by
    cases q : g.get? C with
    | none => rfl
    | some o => have := S₀.keep _ _ q; rw [hC] at this; cases this
  have hCc : ∀ x ∈ vars, env.kindOf x = some .cell → env.cells.lookup x ≠ some C := fun x hx hk hl => by
    rcases S₀.kind x hx with q | ⟨_, c', u, p, _, _, ⟨o, ho, _⟩, _⟩
    · rw [hk] at q; cases q
    · rw [hl] at p; cases p; rw [hC] at ho; cases ho
  have kp := e.extBut
  refine { S with keep := fun b o x => kp b o (fun z => by rw [z, hCg] at x; cases x) (S.keep b o x), ns := ?_, kind := fun x hx => ?_, news := fun r hr => ?_ }
  · obtain ⟨m, x, y⟩ := S.ns; exact ⟨m, x.extBut kp (Ne.symm hCL), y⟩
  · refine (S.kind x hx).imp id fun ⟨k, c', u, p', q', r, ⟨o, ho, hd⟩, t⟩ => ⟨k, c', u, p', q', r, ⟨o, kp _ _ (fun z => hCc x hx k (z ▸ p')) ho, hd⟩, t⟩
  · obtain ⟨x, y⟩ := S.news r hr; exact ⟨x.but kp (hN r hr), y⟩
end

/-- a static look at a comprehension's scope -/
def compOk (scope : Scope) (cvars names : List Str) : Bool :=
  scope.kind == .function && decide ((scope.names.map (·.1)).Nodup) && decide cvars.Nodup &&
  (cvars.all fun y => scope.names.lookup y == some .local || scope.names.lookup y == some .cell) &&
  (names.all fun y => scope.names.lookup y == some .free)

/-- a comprehension's loop, entered: what is left to show -/
def CompGoal (prog : Program) (w : World) (A : Around) (K : Frag) (env : Env) (elt : Expr) (gens : List Comprehension) (scope : Scope) (pos : Pos) (it : Value) (Q : Value → Heap → Prop) (h : Heap) : Prop :=
  ∃ I src g vars vals caps N, it = .ref I ∧ St K g env vars vals caps ((I, Src.cn src 0) :: N) h ∧ ∃ (cvars : List Str) (caps' : List (Str × Value)) (P : List Value → Heap → Prop), compOk scope cvars (caps'.map (·.1)) = true ∧ CapsOk env h caps' ∧
    (∀ (cenv : Env) g' D h', cenv.scope = relabel scope env → Heap.ExtBut I h g' → h.get? D = none → St K g' cenv cvars (cvars.map fun _ => none) caps' [(I, Src.cn src 0), (D, .list [])] h' →
      Cp (model prog w) A (.compLoop (.ListComp elt gens scope pos) 0 (.ref I) (.ref D) cenv) (fun _ h₅ => ∃ ys g'' vals'', St K g'' cenv cvars vals'' caps' [(D, .list ys)] h₅ ∧ Ext g' g'' ∧ P ys g'') h') ∧
    (∀ ys g'' D h₅, P ys g'' → Heap.ExtBut I h g'' → Ext g'' h₅ → g''.get? D = none → h.get? D = none → St K g env vars vals caps ((D, .list ys) :: N) h₅ → Q (.ref D) h₅)

theorem iter_self {prog : Program} {w : World} {A : Around} {h : Heap} {I : Addr} {src : Src} {i : Nat} {Q : Value → Heap → Prop} (hi : IsAt h I (src.cn i)) (H : Q (.ref I) h) : Wp (model prog w) A (pyIter (.ref I)) Q h := fun s E hs => by
  subst hs
  obtain ⟨o, ho, hc⟩ := hi
  cases src with
  | lst l vs => exact wpAny_pyIter_listiter ⟨o, ho, hc⟩ ⟨Same.rfl' s, H⟩
  | tpl l vs => exact wpAny_pyIter_tupleiter ⟨o, ho, hc⟩ ⟨Same.rfl' s, H⟩
  | rng a n =>
    have hc' : o = _ := hc
    subst hc'
    exact wpAny_pyIter_rangeiter ho ⟨Same.rfl' s, H⟩
  | rngs a c n =>
    have hc' : o = _ := hc
    subst hc'
    exact wpAny_pyIter_rangeiter ho ⟨Same.rfl' s, H⟩

section
variable {prog : Program} {w : World} {A : Around} {K : Frag}

/-- the comprehension's block: the new list, the frame, the loop -/
theorem comp_block {env : Env} {elt target iter : Expr} {ifs : List Expr} {rest : List Comprehension} {scope : Scope} {pos : Pos} {it : Value} {Q : Value → Heap → Prop} {s₂ : Shared} {E : Value → Shared → Prop} {RR : Value → Addr → Result → Shared → Prop}
    (hfree : ∀ x ∈ scope.names, x.2 = .free → (env.cells.lookup x.1).isSome = true)
    (G : CompGoal prog w A K env elt (⟨target, iter, ifs, 0⟩ :: rest) scope pos it Q s₂.heap)
    (hRR : ∀ I src g vars vals caps N ys D C h₅ tk, St K g env vars vals caps ((I, Src.cn src 0) :: N) s₂.heap → s₂.heap.get? D = none → s₂.heap.get? C = none → C ≠ D → (∃ m, h₅.Ns C m) → St K g env vars vals caps ((D, .list ys) :: N) h₅ →
      (∀ h', Heap.SameBut C h₅ h' → Q (.ref D) h') → RR (.ref D) C (.ok .next) { s₂ with heap := h₅, toks := tk })
    (hR : ∀ v C f s', RR v C (.ok .next) s' → RR v C (.ok f) s') :
    wpAny (model prog w) A (newList []) (fun acc s₃ => wpAny (model prog w) A (newFunctionEnv scope env.globals (clOf env scope.names []) [] env.qual none .none (some env)) (fun cenv s₄ =>
      codeAny (model prog w) A (.compStart (.ListComp elt (⟨target, iter, ifs, 0⟩ :: rest) scope pos) 0 it acc { cenv with scope := relabel scope env }) (RR acc cenv.locals) s₄) E s₃) E s₂ := by
  obtain ⟨I, src, g, vars, vals, caps, N, rfl, S, cvars, caps', P, hok, hcaps, loop, fin⟩ := G
  simp only [compOk, Bool.and_eq_true, decide_eq_true_eq] at hok
  obtain ⟨⟨⟨⟨hkind, hnd⟩, hndc⟩, hcv⟩, hcn⟩ := hok
  have hkind : scope.kind = .function := by simpa using hkind
  refine wpAny_newObj_type (wpAny_newCompEnv ?_)
  generalize hH3 : s₂.heap.push { cls := .type "list", dict := none, data := .seq ([] : List Value).toArray } = H3
  dsimp only
  generalize hH4 : H3.push { cls := .type "dict", data := .dict #[] } = H4
  generalize hH5 : pushCells H4 scope.names = H5
  have hD : s₂.heap.get? s₂.heap.objs.size = none := get?_size_none _
  have hsz3 : H3.objs.size = s₂.heap.objs.size + 1 := by rw [← hH3, Heap.size_push]
  have x3 : Ext s₂.heap H3 := fun b o e => hH3 ▸ Heap.get?_push_of_some _ e
  have x4 : Ext H3 H4 := fun b o e => hH4 ▸ Heap.get?_push_of_some _ e
  have x5 : Ext H4 H5 := fun b o e => hH5 ▸ pushCells_keeps _ _ b o e
  have hCs : s₂.heap.get? H3.objs.size = none := by
    cases q : s₂.heap.get? H3.objs.size with
    | none => rfl
    | some o => exact absurd (Heap.lt_size (x3 _ _ q)) (Nat.lt_irrefl _)
  have hC3 : H3.get? H3.objs.size = none := get?_size_none _
  have hDC : s₂.heap.objs.size ≠ H3.objs.size := by rw [hsz3]; omega
  have hI := S.at (a := I) (c := Src.cn src 0) (.head _)
  have hID : I ≠ s₂.heap.objs.size := fun q => by obtain ⟨o, ho⟩ := hI.some; rw [q, hD] at ho; cases ho
  have hIC : I ≠ H3.objs.size := fun q => by obtain ⟨o, ho⟩ := hI.some; rw [q, hCs] at ho; cases ho
  have hD3 : IsAt H3 s₂.heap.objs.size (.list []) := ⟨_, hH3 ▸ Heap.get?_push_size _ rfl, 0, rfl⟩
  -- the frozen part
  have gx : Heap.ExtBut I s₂.heap (hideAll H3 [I, s₂.heap.objs.size]) := fun b o hb e => hideAll_get _ (x3 _ _ e) (by
    simp only [List.mem_cons, List.not_mem_nil, or_false, not_or]
    exact ⟨hb, fun q => by rw [q, hD] at e; cases e⟩)
  have gg : Ext g (hideAll H3 [I, s₂.heap.objs.size]) := fun b o e => gx b o (fun q => by
    have := (S.news (I, Src.cn src 0) (.head _)).2.2.1
    rw [q, this] at e; cases e) (S.keep b o e)
  have gh : Ext (hideAll H3 [I, s₂.heap.objs.size]) H3 := fun b o e => of_hideAll _ e
  have gD : (hideAll H3 [I, s₂.heap.objs.size]).get? s₂.heap.objs.size = none := hideAll_none _ (.tail _ (.head _))
  have gI : (hideAll H3 [I, s₂.heap.objs.size]).get? I = none := hideAll_none _ (.head _)
  have gno : ∀ a, H3.get? a = none → (hideAll H3 [I, s₂.heap.objs.size]).get? a = none := fun a ha => by
    cases q : (hideAll H3 [I, s₂.heap.objs.size]).get? a with
    | none => rfl
    | some o => rw [gh _ _ q] at ha; cases ha
  generalize hg' : hideAll H3 [I, s₂.heap.objs.size] = g' at gx gg gh gD gI gno
  -- the cells
  have ok := cellsFrom_ok scope.names H4 (H3.objs.size + 1) [] ⟨fun _ _ hm => (nomatch hm), List.Pairwise.nil⟩ (by rw [← hH4, Heap.size_push]; exact Nat.le_refl _)
  have hsz4 : H4.objs.size = H3.objs.size + 1 := by rw [← hH4, Heap.size_push]
  rw [hsz4, hH5] at ok
  obtain ⟨cl1, cl2, _⟩ := clOf_entries scope.names [] hfree (fun p hp => (nomatch hp))
  have own : ∀ x, scope.names.lookup x = some .cell → ∃ c, (cellsFrom (H3.objs.size + 1) scope.names []).lookup x = some c := fun x hx => by
    have := cellsFrom_some (x := x) scope.names (H3.objs.size + 1) [] (.inl hx)
    exact Option.isSome_iff_exists.mp this
  have ownOk : ∀ x c, (cellsFrom (H3.objs.size + 1) scope.names []).lookup x = some c → H5.IsCell c none ∧ H3.objs.size + 1 ≤ c := fun x c hc => ok.empty x c (mem_of_lookup hc)
  have notOwn : ∀ x, scope.names.lookup x = some .free → (cellsFrom (H3.objs.size + 1) scope.names []).lookup x = none := fun x hx => by
    cases q : (cellsFrom (H3.objs.size + 1) scope.names []).lookup x with
    | none => rfl
    | some c =>
      have h1 := cellsFrom_names _ _ _ (mem_of_lookup q)
      have h2 := lookup_mem hnd h1
      rw [hx] at h2; cases h2
  have freeLk : ∀ x, scope.names.lookup x = some .free → (cellsFrom (H3.objs.size + 1) scope.names [] ++ clOf env scope.names []).lookup x = env.cells.lookup x := fun x hx => by
    rw [List.lookup_append, notOwn x hx]
    simp only [Option.none_or]
    exact lookup_some_of (f := fun n => env.cells.lookup n) cl1 (cl2 x (mem_of_lookup hx))
  have ownLk : ∀ x c, (cellsFrom (H3.objs.size + 1) scope.names []).lookup x = some c → (cellsFrom (H3.objs.size + 1) scope.names [] ++ clOf env scope.names []).lookup x = some c := fun x c hc => by
    rw [List.lookup_append, hc]; rfl
  generalize hce : ({ scope := scope, locals := H3.objs.size, globals := env.globals, cells := cellsFrom (H3.objs.size + 1) scope.names [] ++ clOf env scope.names [], qual := env.qual, func := none, code := env.code, frame := env.frame, builtins := env.builtins } : Env) = ce
  have ceL : ce.locals = H3.objs.size := by rw [← hce]
  have noneVals : ∀ {x v}, ¬ At2 cvars (cvars.map fun _ => none) x v := by
    intro x v a
    clear loop
    induction cvars with
    | nil => cases a
    | cons y r ih =>
      rw [List.map_cons] at a
      cases a with
      | tail a => exact ih (by simp only [List.all_cons, Bool.and_eq_true] at hcv; exact hcv.2) (List.nodup_cons.mp hndc).2 a
  have Sc : St K g' { ce with scope := relabel scope env } cvars (cvars.map fun _ => none) caps' [(I, Src.cn src 0), (s₂.heap.objs.size, .list [])] H5 := by
    have hLo : (({ ce with scope := relabel scope env } : Env)).locals = H3.objs.size := ceL
    refine ⟨S.wd.ext gg, (gh.trans x4).trans x5, hkind, ?_, ?_, hndc, ?_, ⟨fun _ => none, ?_, fun x v a => (noneVals a).elim⟩, fun x hx => ?_, fun x hx y hy c hkx hky h1 h2 => ?_, fun p hp => ?_, fun p hp => ?_, ?_⟩
    · rw [← hce]; exact S.gl
    · rw [← hce]; exact S.bu
    · rw [hLo]; exact gno _ hC3
    · rw [hLo, ← hH5]
      exact (hH4 ▸ Heap.Ns.new H3 (.type "dict")).keeps (pushCells_keeps _ _)
    · have := List.all_eq_true.mp hcv x hx
      rcases Bool.or_eq_true_iff.mp this with q | q
      · have q : scope.names.lookup x = some .local := by simpa using q
        rcases relabel_lookup (env := env) q with r | ⟨r, _⟩
        · exact .inl r
        · cases r
      · have q : scope.names.lookup x = some .cell := by simpa using q
        obtain ⟨c, hc⟩ := own x q
        obtain ⟨hi, hge⟩ := ownOk x c hc
        rcases relabel_lookup (env := env) q with r | ⟨r, _⟩
        · refine .inr ⟨r, c, none, ?_, ?_, ?_, hi, fun v a => (noneVals a).elim⟩
          · rw [← hce]; exact ownLk x c hc
          · rw [hLo]; exact Nat.ne_of_gt hge
          · refine gno c ?_
            cases q : H3.get? c with
            | none => rfl
            | some o => exact absurd (Heap.lt_size q) (Nat.not_lt.mpr (Nat.le_of_succ_le hge))
        · cases r
    · have cellOf : ∀ x ∈ cvars, (({ ce with scope := relabel scope env } : Env)).kindOf x = some .cell → scope.names.lookup x = some .cell := fun x hx hk => by
        have := List.all_eq_true.mp hcv x hx
        rcases Bool.or_eq_true_iff.mp this with q | q
        · have q : scope.names.lookup x = some .local := by simpa using q
          rcases relabel_lookup (env := env) q with r | ⟨r, _⟩
          · have : (relabel scope env).names.lookup x = some .cell := hk
            rw [r] at this; cases this
          · cases r
        · simpa using q
      obtain ⟨c1, hc1⟩ := own x (cellOf x hx hkx)
      obtain ⟨c2, hc2⟩ := own y (cellOf y hy hky)
      have e1 : (({ ce with scope := relabel scope env } : Env)).cells.lookup x = some c1 := by rw [← hce]; exact ownLk x c1 hc1
      have e2 : (({ ce with scope := relabel scope env } : Env)).cells.lookup y = some c2 := by rw [← hce]; exact ownLk y c2 hc2
      rw [e1] at h1; rw [e2] at h2
      cases h1; cases h2
      exact name_of_addr ok.apart (mem_of_lookup hc1) (mem_of_lookup hc2)
    · have q : scope.names.lookup p.1 = some .free := by
        have := List.all_eq_true.mp hcn p.1 (List.mem_map_of_mem hp)
        simpa using this
      obtain ⟨c, hc, hi⟩ := hcaps.all p hp
      refine ⟨?_, c, ?_, ?_⟩
      · rcases relabel_lookup (env := env) q with r | ⟨_, r⟩
        · exact .inr r
        · exact .inl r
      · rw [← hce]; exact (freeLk p.1 q).trans hc
      · obtain ⟨o, ho, hd⟩ := hi
        refine ⟨o, gx c o (fun z => ?_) ho, hd⟩
        obtain ⟨o', ho', hc'⟩ := hI
        have eo : o' = o := Option.some.inj (ho'.symm.trans (z ▸ ho))
        subst eo
        cases src with
        | lst l vs => rw [hc'.2] at hd; cases hd
        | tpl l vs => rw [hc'.2] at hd; cases hd
        | rng a n => have hc' : o' = _ := hc'; rw [hc'] at hd; cases hd
        | rngs a c n => have hc' : o' = _ := hc'; rw [hc'] at hd; cases hd
    · simp only [List.mem_cons, List.not_mem_nil, or_false] at hp
      have notC : ∀ a, (∃ o, H3.get? a = some o) → ∀ x ∈ cvars, (({ ce with scope := relabel scope env } : Env)).kindOf x = some .cell → (({ ce with scope := relabel scope env } : Env)).cells.lookup x ≠ some a := fun a ⟨o, ho⟩ x hx hk hl => by
        have hk' : scope.names.lookup x = some .cell := by
          have := List.all_eq_true.mp hcv x hx
          rcases Bool.or_eq_true_iff.mp this with q | q
          · have q : scope.names.lookup x = some .local := by simpa using q
            rcases relabel_lookup (env := env) q with r | ⟨r, _⟩
            · have : (relabel scope env).names.lookup x = some .cell := hk
              rw [r] at this; cases this
            · cases r
          · simpa using q
        obtain ⟨c1, hc1⟩ := own x hk'
        have e1 : (({ ce with scope := relabel scope env } : Env)).cells.lookup x = some c1 := by rw [← hce]; exact ownLk x c1 hc1
        rw [e1] at hl; cases hl
        exact absurd (Heap.lt_size ho) (Nat.not_lt.mpr (Nat.le_of_succ_le (ownOk x _ hc1).2))
      rcases hp with rfl | rfl
      · refine ⟨((hI.ext x3).ext x4).ext x5, by rw [hLo]; exact hIC, gI, notC I ?_⟩
        obtain ⟨o, ho⟩ := hI.some; exact ⟨o, x3 _ _ ho⟩
      · refine ⟨(hD3.ext x4).ext x5, by rw [hLo]; exact hDC, gD, notC _ hD3.some⟩
    · simp only [List.map_cons, List.map_nil, List.nodup_cons, List.mem_cons, List.not_mem_nil, or_false, not_false_eq_true, List.nodup_nil, and_true]
      exact hID
  have base : ∀ s₅ : Shared, s₅.heap = H5 → Same s₂ s₅ → codeAny (model prog w) A (.compLoop (.ListComp elt (⟨target, iter, ifs, 0⟩ :: rest) scope pos) 0 (.ref I) (.ref s₂.heap.objs.size) { ce with scope := relabel scope env }) (RR (.ref s₂.heap.objs.size) ce.locals) s₅ := fun s₅ h5 es => by
    refine (loop _ g' s₂.heap.objs.size H5 rfl gx hD Sc).out h5 fun f s₆ e₆ q => hR _ _ _ _ ?_
    obtain ⟨ys, g'', vals'', S'', eg, hP⟩ := q
    obtain ⟨h₆, tk, rfl⟩ := es.trans e₆
    rw [ceL]
    have xI : Heap.ExtBut I s₂.heap h₆ := fun b o hb e => S''.keep _ _ (eg _ _ (gx b o hb e))
    have hDat : IsAt h₆ s₂.heap.objs.size (.list ys) := S''.at (.head _)
    have Sf : St K g env vars vals caps ((s₂.heap.objs.size, .list ys) :: N) h₆ := S.push' xI hD hDat
    refine hRR I src g vars vals caps N ys _ _ h₆ tk S hD hCs (Ne.symm hDC) ?_ Sf fun h' hs' => ?_
    · obtain ⟨m, hm, _⟩ := S''.ns
      have hm : Heap.Ns h₆ ce.locals m := hm
      rw [ceL] at hm
      exact ⟨m, hm⟩
    · have hNC : ∀ p ∈ ((s₂.heap.objs.size, Cn.list ys) :: N), p.1 ≠ H3.objs.size := fun p hp => by
        rcases List.mem_cons.mp hp with rfl | hp
        · exact hDC
        · intro q
          obtain ⟨o, ho⟩ := (S.news p (.tail _ hp)).1.some
          rw [q, hCs] at ho; cases ho
      have hg''C : ∀ b o, g''.get? b = some o → b ≠ H3.objs.size := fun b o e q => by
        have := S''.hidL
        have hL : g''.get? ce.locals = none := this
        rw [ceL, ← q, e] at hL; cases hL
      have gDn : g''.get? s₂.heap.objs.size = none := (S''.news (s₂.heap.objs.size, .list ys) (.head _)).2.2.1
      exact fin ys g'' _ h' hP (fun b o hb e => eg _ _ (gx b o hb e)) (fun b o e => hs'.extBut b o (hg''C b o e) (S''.keep b o e)) gDn hD (Sf.other S hCs hNC hs')
  subst hce
  refine codeAny_compStart_list (base _ rfl (Same.mk' s₂ _ _)) ?_
  exact (iter_self (prog := prog) (w := w) (A := A) (src := src) (i := 0) (Q := fun v h' => v = .ref I ∧ h' = H5) (Sc.at (.head _)) ⟨rfl, rfl⟩).out rfl fun v s' e q => by
    obtain ⟨rfl, q⟩ := q
    exact base _ q ((Same.mk' s₂ _ _).trans e)

theorem Wp_ListComp {env : Env} {g h : Heap} {vars : List Str} {vals : List (Option Value)} {caps : List (Str × Value)} {N : List (Addr × Cn)} {sc : Scope} {elt target iter : Expr} {ifs : List Expr} {rest : List Comprehension} {scope : Scope} {pos : Pos} {Q : Value → Heap → Prop}
    (S : St K g env vars vals caps N h) (hsc : env.scope = sc)
    (hfree : (scope.names.all fun x => x.2 != .free || (vars.contains x.1 && sc.names.lookup x.1 == some .cell) || (caps.map (·.1)).contains x.1) = true)
    (hnd : (scope.names.map (·.1)).Nodup) (hkind : scope.kind = .function)
    (H : Wp (model prog w) A (eval iter env) (fun x h₁ => Wp (model prog w) A (pyIter x) (fun it h₂ => CompGoal prog w A K env elt (⟨target, iter, ifs, 0⟩ :: rest) scope pos it Q h₂) h₁) h)
    (hs : ∀ x, foldedSetIterable iter env x = pure x := by intro _; rfl) :
    Wp (model prog w) A (eval (.ListComp elt (⟨target, iter, ifs, 0⟩ :: rest) scope pos) env) Q h := fun s E e => by
  have hf := S.free hsc hfree
  rw [eval_ListComp]
  refine wpAny_comprehension_free (use := none) rfl hs (closureFor_eq hf) hkind (fun x hx hl => lookup_mem hnd (by rw [← hl]; exact hx)) (H.out e fun x s₁ e₁ q => q.out rfl fun it s₂ e₂ G => ?_)
  refine comp_block (RR := fun acc C => compPost (model prog w) A E none (fun a s' => Same s s' ∧ Q a s'.heap) acc C) hf G ?_ (fun _ _ _ _ q => q)
  intro I src g vars vals caps N ys D C h₅ tk S hD hC hCD hn Sf fin
  obtain ⟨m, hm⟩ := hn
  exact ⟨m, hm, fun h' hs' => ⟨(e₁.trans e₂).trans (Same.mk' s₂ h' tk), fin h' hs'⟩⟩
end

open PySem PySem.W PySem.Calls PyProof.Rows
set_option Elab.async false

theorem swaps_eq {elt : Expr} {gens : List Comprehension} {scope : Scope} {p pos : Pos} {t : Str} {line : Nat} {env : Env} :
    swapsWith (.ListComp elt gens scope p) (some (.Name t pos)) line env = pure (env.blockKind == .function && env.kindOf t == some .local && pos.line == (Expr.ListComp elt gens scope p).pos.line
      && !(scope.names.any fun (n, k) => n == t && (k == .local || k == .cell))) := rfl
theorem swaps_of {elt : Expr} {gens : List Comprehension} {scope sc : Scope} {p pos : Pos} {t : Str} {line : Nat} {env : Env} {b : Bool} (hsc : env.scope = sc)
    (h : ((if sc.kind.isAnnotationScope then ScopeKind.function else sc.kind) == .function && sc.names.lookup t == some .local && pos.line == p.line && !(scope.names.any fun (n, k) => n == t && (k == .local || k == .cell))) = b) :
    swapsWith (.ListComp elt gens scope p) (some (.Name t pos)) line env = pure b := by
  rw [swaps_eq, ← h]
  unfold Env.blockKind Env.kindOf
  rw [hsc]; rfl

def UseQ (K : Frag) (env : Env) (x : Str) (Qf : Flow → Heap → Prop) (v : Value) (h' : Heap) : Prop :=
  ∃ g vars vals vals' caps N, St K g env vars vals caps N h' ∧ Put2 vars vals x v vals' ∧ ∀ h'', St K g env vars vals' caps N h'' → Qf .next h''

theorem St.weaken {K : Frag} {g g' h h₀ : Heap} {env : Env} {vars : List Str} {vals vals₀ : List (Option Value)} {caps : List (Str × Value)} {N N₀ : List (Addr × Cn)}
    (S : St K g' env vars vals caps N h) (S₀ : St K g env vars vals₀ caps N₀ h₀) (e : Ext g g') : St K g env vars vals caps N h :=
  have no : ∀ a, g'.get? a = none → g.get? a = none := fun a ha => by
    cases q : g.get? a with
    | none => rfl
    | some o => rw [e _ _ q] at ha; cases ha
  { S with
    wd := S₀.wd
    keep := e.trans S.keep
    hidL := no _ S.hidL
    kind := fun x hx => (S.kind x hx).imp id fun ⟨k, c, u, p, q, r, s, t⟩ => ⟨k, c, u, p, q, no _ r, s, t⟩
    caps := S₀.caps
    news := fun p hp => let ⟨x, y, z, t⟩ := S.news p hp; ⟨x, y, no _ z, t⟩ }

section
variable {prog : Program} {w : World} {A : Around} {K : Frag}
theorem Wp_Assign_comp {env : Env} {g h : Heap} {vars : List Str} {vals : List (Option Value)} {caps : List (Str × Value)} {N : List (Addr × Cn)} {sc : Scope} {elt target iter : Expr} {ifs : List Expr} {rest : List Comprehension} {scope : Scope} {p pos px : Pos} {x : Str} {Q : Flow → Heap → Prop}
    (S : St K g env vars vals caps N h) (hsc : env.scope = sc)
    (hfree : (scope.names.all fun x => x.2 != .free || (vars.contains x.1 && sc.names.lookup x.1 == some .cell) || (caps.map (·.1)).contains x.1) = true)
    (hnd : (scope.names.map (·.1)).Nodup) (hkind : scope.kind = .function)
    (hsw : swapsWith (.ListComp elt (⟨target, iter, ifs, 0⟩ :: rest) scope p) (some (.Name x px)) pos.line env = pure true)
    (H : Wp (model prog w) A (eval iter env) (fun y h₁ => Wp (model prog w) A (pyIter y) (fun it h₂ => CompGoal prog w A K env elt (⟨target, iter, ifs, 0⟩ :: rest) scope p it (UseQ K env x Q) h₂) h₁) h)
    (hs : ∀ x, foldedSetIterable iter env x = pure x := by intro _; rfl) :
    Wp (model prog w) A (exec (.Assign [.Name x px] (.ListComp elt (⟨target, iter, ifs, 0⟩ :: rest) scope p) pos) env) Q h := fun s E e => by
  have hf := S.free hsc hfree
  rw [exec_Assign_Name_used _ _ _ _ hsw]
  refine wpAny_bind (wpAny_standAt ?_)
  show wpAny _ _ ((comprehension (.ListComp elt (⟨target, iter, ifs, 0⟩ :: rest) scope p) scope env (firstIterPos (⟨target, iter, ifs, 0⟩ :: rest) p) (newList []) (firstAsync (⟨target, iter, ifs, 0⟩ :: rest)) (firstIter (⟨target, iter, ifs, 0⟩ :: rest) env) (some (assign (.Name x px) env)) >>= fun _ => pure ()) >>= fun _ => pure Flow.next) _ _ s
  refine wpAny_bind (wpAny_bind ?_)
  refine wpAny_comprehension_free (Q := fun _ s' => wpAny (model prog w) A (pure ()) (fun _ s'' => wpAny (model prog w) A (pure Flow.next) (fun a s' => Same s s' ∧ Q a s'.heap) E s'') E s') (use := some (assign (.Name x px) env)) rfl hs (closureFor_eq hf) hkind (fun x hx hl => lookup_mem hnd (by rw [← hl]; exact hx)) (H.out e fun y s₁ e₁ q => q.out rfl fun it s₂ e₂ G => ?_)
  refine comp_block (RR := fun acc C => compPost (model prog w) A E (some (assign (.Name x px) env)) (fun _ s' => wpAny (model prog w) A (pure ()) (fun _ s'' => wpAny (model prog w) A (pure Flow.next) (fun a s' => Same s s' ∧ Q a s'.heap) E s'') E s') acc C) hf G ?_ (fun _ _ _ _ q => q)
  intro I src g vars vals caps N ys D C h₅ tk S hD hC hCD hn Sf fin
  obtain ⟨m, hm⟩ := hn
  obtain ⟨g₃, vars₃, vals₃, vals', caps₃, N₃, S₃, hput, cont⟩ := fin (h₅.hide C) (Heap.SameBut.update ..)
  have hCn : (h₅.hide C).get? C = none := Heap.hide_self h₅ C
  have S₅ : St K g₃ env vars₃ vals₃ caps₃ N₃ h₅ := S₃.grow fun b o e => Heap.of_hide e
  -- C is frozen while the name is stored
  obtain ⟨g₄, e₄, S₄, fz⟩ := S₅.rebase
  have hCo : C ∉ St.owned env vars₃ N₃ := fun q => by obtain ⟨o, ho⟩ := S₃.owned_some C q; rw [hCn] at ho; cases ho
  obtain ⟨oC, esC, epC, hoC, hdC, hsC, hfC⟩ := hm
  have hC4 := fz C oC hoC hCo
  show wpAny _ _ (assign (.Name x px) env (.ref D)) _ _ _
  refine wpAny_assign_Name ((Wp_store (Q := fun _ h' => St K g₄ env vars₃ vals' caps₃ N₃ h') S₄ hput (fun h' S' => S')).out rfl fun _ s₆ e₆ S₆ => ?_)
  refine ⟨m, ⟨oC, esC, epC, S₆.keep _ _ hC4, hdC, hsC, hfC⟩, fun h' hs' => wpAny_pure (wpAny_pure ⟨?_, cont h' ?_⟩)⟩
  · obtain ⟨h6, tk6, rfl⟩ := e₆
    exact ((e₁.trans e₂).trans (Same.mk' s₂ h' tk6))
  · have S₇ : St K g₃ env vars₃ vals' caps₃ N₃ s₆.heap := S₆.weaken S₅ e₄
    refine S₇.other S₃ hCn (fun p hp q => ?_) hs'
    obtain ⟨o, ho⟩ := (S₃.news p hp).1.some
    rw [q, hCn] at ho; cases ho
end

open PySem PySem.W PySem.Calls PyProof.Rows
set_option Elab.async false

theorem range_filter_succ (p : Nat → Bool) (n : Nat) : (List.range (n + 1)).filter p = (List.range n).filter p ++ (if p n then [n] else []) := by
  rw [List.range_succ, List.filter_append]
  cases h : p n <;> simp [h]
theorem Paired.append' {α β : Type} {F : α → β → Prop} : ∀ {l₁ : List α} {l₂ : List β} {m₁ : List α} {m₂ : List β}, Paired F l₁ l₂ → Paired F m₁ m₂ → Paired F (l₁ ++ m₁) (l₂ ++ m₂)
  | _, _, _, _, .nil, h => h
  | _, _, _, _, .cons a t, h => .cons a (Paired.append' t h)
theorem Paired.ints {f : Nat → Int} : ∀ {l : List Nat} {ys : List Value}, Paired (fun i y => ∃ t, y = Value.int (f i) t) l ys → IntsAre ys (l.map f)
  | _, _, .nil => .nil
  | _, _, .cons ⟨t, e⟩ r => by subst e; exact .cons _ t (Paired.ints r)

section
variable {prog : Program} {w : World} {A : Around} {K : Frag} {g h : Heap} {env : Env} {vars : List Str} {vals : List (Option Value)} {caps : List (Str × Value)} {N : List (Addr × Cn)}

theorem Wp_append {D : Addr} {ys : List Value} {x : Value} {N' : List (Addr × Cn)} {Q : Value → Heap → Prop} (S : St K g env vars vals caps N h) (hD : (D, .list ys) ∈ N) (p : LPut N D (.list (ys ++ [x])) N') (hsz : ys.length ≤ sizeLine)
    (H : ∀ h', St K g env vars vals caps N' h' → Q .none h') : Wp (model prog w) A (call (.builtin "list.append") [.ref D, x]) Q h := fun s E e => by
  subst e
  refine wpAny_list_append_plain (hsz := by simpa using hsz) (S.at hD).plain fun h' hp hs => ⟨Same.mk' s _ s.toks, H h' (S.upd p hs.extBut (IsAt.ofPlain ?_))⟩
  simpa using hp

/-- a comprehension of one clause over a source; its turns make nothing that stays -/
theorem CompGoal.sel {I : Addr} {src : Src} {elt iter : Expr} {x : Str} {px : Pos} {ifs : List Expr} {scope : Scope} {pos : Pos} {Q : Value → Heap → Prop}
    (S : St K g env vars vals caps ((I, src.cn 0) :: N) h) (hA : A.handled = none) (hb : src.base h) (hlen : src.len ≤ sizeLine) (caps' : List (Str × Value)) (p : Nat → Bool) (R : Nat → Value → Prop)
    (hok : compOk scope [x] (caps'.map (·.1)) = true) (hcaps : CapsOk env h caps')
    (test : ∀ (cenv : Env) g' D ys i v h', cenv.scope = relabel scope env → Ext g g' → (∀ q ∈ N, IsAt g' q.1 q.2) → i < src.len → src.item i v → St K g' cenv [x] [some v] caps' [(I, src.cn (i + 1)), (D, .list ys)] h' →
      Wp (model prog w) A (tests ifs cenv) (fun ok h₂ => ok = p i ∧ St K g' cenv [x] [some v] caps' [(I, src.cn (i + 1)), (D, .list ys)] h₂) h')
    (elem : ∀ (cenv : Env) g' D ys i v h', cenv.scope = relabel scope env → Ext g g' → (∀ q ∈ N, IsAt g' q.1 q.2) → i < src.len → src.item i v → p i = true → St K g' cenv [x] [some v] caps' [(I, src.cn (i + 1)), (D, .list ys)] h' →
      Wp (model prog w) A (eval elt cenv) (fun y h₂ => R i y ∧ St K g' cenv [x] [some v] caps' [(I, src.cn (i + 1)), (D, .list ys)] h₂) h')
    (H : ∀ ys D h₅, Paired R ((List.range src.len).filter p) ys → St K g env vars vals caps ((D, .list ys) :: N) h₅ → Q (.ref D) h₅) :
    CompGoal prog w A K env elt [⟨.Name x px, iter, ifs, 0⟩] scope pos (.ref I) Q h := by
  refine ⟨I, src, g, vars, vals, caps, N, rfl, S, [x], caps', fun ys _ => Paired R ((List.range src.len).filter p) ys, hok, hcaps, fun cenv g' D h' hsc hx hD Sc => ?_, fun ys g'' D h₅ hP _ _ _ _ Sf => H ys D h₅ hP Sf⟩
  have gI := (S.news (I, src.cn 0) (.head _)).2.2.1
  have hgg : Ext g g' := fun b o e => hx b o (fun q => by rw [q, gI] at e; cases e) (S.keep b o e)
  have hNN : ∀ q ∈ N, IsAt g' q.1 q.2 := fun q hq => by
    have nd := List.nodup_cons.mp S.nodN
    exact (S.news q (.tail _ hq)).1.but hx fun z => nd.1 (by have := List.mem_map_of_mem (f := (·.1)) hq; rwa [z] at this)
  refine Cp_compLoop (turn1 ..) src (fun i g₁ vals₁ N₁ => g₁ = g' ∧ ∃ ys o, vals₁ = [o] ∧ N₁ = [(D, .list ys)] ∧ Paired R ((List.range i).filter p) ys) hA Sc ⟨rfl, [], none, rfl, rfl, .nil⟩ ?_ ?_ ?_
  · rintro i g₁ vals₁ N₁ h₁ ⟨rfl, _⟩ S₁
    have hb' : src.base g₁ := by
      cases src with
      | lst l vs =>
        obtain ⟨o, ho, r⟩ := hb
        refine ⟨o, hx _ _ (fun q => ?_) ho, r⟩
        obtain ⟨o', ho', hc'⟩ := (S.at (a := I) (.head _))
        rw [q, ho'] at ho; cases ho
        have := hc'.1
        rw [r.1] at this; exact absurd this (by simp)
      | tpl l vs =>
        obtain ⟨o, ho, r⟩ := hb
        refine ⟨o, hx _ _ (fun q => ?_) ho, r⟩
        obtain ⟨o', ho', hc'⟩ := (S.at (a := I) (.head _))
        rw [q, ho'] at ho; cases ho
        have := hc'.1
        rw [r.1] at this; exact absurd this (by simp)
      | rng a n => trivial
      | rngs a c n => trivial
    cases src with
    | lst l vs => exact isListExt hb' S₁.keep
    | tpl l vs => obtain ⟨o, ho, r⟩ := hb'; exact ⟨o, S₁.keep _ _ ho, r⟩
    | rng a n => trivial
    | rngs a c n => trivial
  · rintro i v g₁ vals₁ N₁ h₁ hi hv ⟨rfl, ys, o, rfl, rfl, hP⟩ S₁
    refine Wp_letOwned_Name (Wp_assign_Name (Wp_store S₁ .head fun h₂ S₂ => (test cenv g₁ D ys i v h₂ hsc hgg hNN hi hv S₂).mono fun ok h₃ ⟨hok', S₃⟩ => ?_))
    subst hok'
    cases hpi : p i with
    | false =>
      refine Wp_pure ⟨rfl, g₁, _, _, ⟨rfl, ys, _, rfl, rfl, ?_⟩, S₃⟩
      rw [range_filter_succ, hpi]; simpa using hP
    | true =>
      have hys : ys.length ≤ sizeLine := by
        have e1 := hP.length
        have e2 := List.length_filter_le p (List.range i)
        rw [List.length_range] at e2
        omega
      refine Wp_bind (Wp_emit ((elem cenv g₁ D ys i v h₃ hsc hgg hNN hi hv hpi S₃).mono fun y h₄ ⟨hR, S₄⟩ => ?_))
      refine Wp_append S₄ (.tail _ (.head _)) (.tail .head) hys fun h₅ S₅ => Wp_pure ⟨rfl, g₁, _, _, ⟨rfl, ys ++ [y], _, rfl, rfl, ?_⟩, S₅⟩
      rw [range_filter_succ, hpi]
      exact Paired.append' hP (.cons hR .nil)
  · rintro g₁ vals₁ N₁ h₁ ⟨rfl, ys, o, rfl, rfl, hP⟩ S₁
    exact ⟨ys, g₁, _, S₁, Ext.refl _, hP⟩
end

open PySem PySem.W PySem.Calls PyProof.Rows
set_option Elab.async false

theorem fr_any {h : Heap} {L : Addr} {m : Str → Option Value} (n : h.Ns L m) : Fr {} L h m := ⟨n, fun b o e => by simp [Heap.get?] at e, Nat.zero_le _⟩
theorem extPush (h : Heap) (o : Obj) : Ext h (h.push o) := fun _ _ e => Heap.get?_push_of_some _ e

section
variable {prog : Program} {w : World} {A : Around} {h : Heap} {env : Env} {K : Frag} {Q : Value → Heap → Prop}

theorem Wp_half {n : Nat} {t u : Tok} (H : ∀ t, Q (.int (n / 2 : Nat) t) h) : Wp (model prog w) A (binaryOp .FloorDiv (.int ((n : Nat) : Int) t) (.int 2 u)) Q h :=
  Wp_fdiv (by decide) (by decide) (fun t => by rw [show ((n : Int)).fdiv 2 = ((n / 2 : Nat) : Int) from by rw [Int.fdiv_eq_ediv_of_nonneg _ (by omega)]; omega]; exact H t)

theorem Wp_abs {a : Int} {t : Tok} (H : ∀ t, Q (.int (a.natAbs : Int) t) h) : Wp (model prog w) A (call (.builtin "abs") [.int a t]) Q h := fun s E e => by
  subst e
  exact call_abs_int fun u tk => ⟨Same.mk' s s.heap tk, by have := H u; rw [show ((a.natAbs : Nat) : Int) = if a < 0 then -a else a from by split <;> omega] at this; exact this⟩

/- ranges -/
def rngsCn (a b c : Int) (t u v : Tok) : Cn := .obj { cls := .type "range", dict := none, data := .fields #[.int a t, .int b u, .int c v], slots := #[] }
theorem Wp_range3 {a b c : Int} {t u v : Tok} (hc : 0 < c) (hc' : c < 1000) (H : ∀ r h', Fresh h r (rngsCn a b c t u v) h' → Q (.ref r) h') : Wp (model prog w) A (call (.type "range") [.int a t, .int b u, .int c v]) Q h := fun s E e => by
  subst e
  exact call_range_3 (by omega) ⟨Same.mk' s _ s.toks, H _ _ (Fresh.push _ rfl rfl)⟩ (Or.inl (PyProof.noPylong_small (by omega)))
theorem Wp_iter_range3 {l : Addr} {a b c : Int} {t u v : Tok} (hl : IsAt h l (rngsCn a b c t u v)) (hs : Builtin.Range.small a b c = true) {n : Nat} (hn : Builtin.Range.rangeSize a b c = n)
    (H : ∀ I h', Fresh h I ((Src.rngs a c n).cn 0) h' → Q (.ref I) h') : Wp (model prog w) A (pyIter (.ref l)) Q h := fun s _ e => by
  subst e
  obtain ⟨o, ho, rfl⟩ := hl
  refine wpAny_pyIter_range ho hs ⟨Same.mk' s _ s.toks, H _ _ (Fresh.push _ rfl ?_)⟩
  simp only [Src.cn, Cn.ok, hn]
  simp
def rngCn (a b : Int) (t u v : Tok) : Cn := .obj (rangeObj a b t u v)
theorem Wp_range1 {n : Int} {t : Tok} (H : ∀ a h' t u v, Fresh h a (rngCn 0 n t u v) h' → Q (.ref a) h') : Wp (model prog w) A (call (.type "range") [.int n t]) Q h := fun s E e => by
  subst e
  exact call_range_1 ⟨Same.mk' s _ _, H _ _ _ _ _ (Fresh.push _ rfl rfl)⟩
theorem Wp_range2 {a b : Int} {t u : Tok} (H : ∀ r h' t u v, Fresh h r (rngCn a b t u v) h' → Q (.ref r) h') : Wp (model prog w) A (call (.type "range") [.int a t, .int b u]) Q h := fun s E e => by
  subst e
  exact call_range_2 ⟨Same.mk' s _ _, H _ _ _ _ _ (Fresh.push _ rfl rfl)⟩
theorem small_of {a b : Int} (ha : -(2 ^ 61) ≤ a) (hb : b ≤ 2 ^ 61) (ha' : a ≤ 2 ^ 61) (hb' : -(2 ^ 61) ≤ b) : Builtin.Range.small a b 1 = true := small_one (by omega) (by omega) (by omega) (by omega)

/- lists -/
theorem Wp_list_list {l : Addr} {xs : List Value} (hl : h.IsList l xs.toArray) (hsz : xs.length ≤ sizeLine) (H : ∀ a h', Fresh h a (.list xs) h' → Q (.ref a) h') : Wp (model prog w) A (call (.type "list") [.ref l]) Q h := fun s E e => by
  subst e
  obtain ⟨o, ho, hc, n, hd⟩ := hl
  exact call_list_seq (hsz := by simpa using hsz) l (.inl rfl) ho hc hd fun h' c' hk hD => ⟨Same.mk' s h' s.toks, H _ _ ⟨hk, get?_size_none _, _, hD, c', rfl⟩⟩
theorem Wp_list_range {l : Addr} {a b : Int} {t u v : Tok} (hA : A.handled = none) (hl : IsAt h l (rngCn a b t u v)) (hs : Builtin.Range.small a b 1 = true) (hlen : (b - a).toNat ≤ 2 ^ 24)
    (H : ∀ D h' xs, Fresh h D (.list xs) h' → IntsAre xs ((List.range (b - a).toNat).map fun (i : Nat) => a + (i : Int)) → Q (.ref D) h') : Wp (model prog w) A (call (.type "list") [.ref l]) Q h := fun s E e => by
  subst e
  obtain ⟨o, ho, rfl⟩ := hl
  refine call_list_range hA ho hs (rangeSize_one a b) hlen fun h' tk acc' c' hk hD hI => ⟨Same.mk' s h' tk, H _ h' acc'.toList ⟨hk, get?_size_none _, _, hD, c', by simp⟩ ?_⟩
  obtain ⟨h1, h2⟩ := hI
  have key : ∀ (n : Nat) (ys : List Value), ys.length = n → (∀ (j : Nat) v, ys[j]? = some v → ∃ t, v = Value.int (a + (j : Int) * 1) t) → IntsAre ys ((List.range n).map fun (i : Nat) => a + (i : Int)) := by
    intro n
    induction n with
    | zero => intro ys hy _; rw [List.length_eq_zero_iff.mp hy]; exact .nil
    | succ n ih =>
      intro ys hy hv
      have hne : ys ≠ [] := fun q => by rw [q] at hy; cases hy
      have e1 : ys = ys.dropLast ++ [ys.getLast hne] := (List.dropLast_concat_getLast hne).symm
      rw [e1, List.range_succ, List.map_append]
      refine IntsAre.append (ih _ (by rw [List.length_dropLast, hy]; rfl) fun j v hj => hv j v ?_) ?_
      · rw [e1, List.getElem?_append_left (List.getElem?_eq_some_iff.mp hj).1]; exact hj
      · obtain ⟨t, ht⟩ := hv n (ys.getLast hne) (by rw [List.getLast_eq_getElem, List.getElem?_eq_getElem (by omega)]; congr 1; simp [hy])
        rw [ht]
        have : a + (n : Int) * 1 = a + n := by omega
        rw [this]
        exact .cons _ t .nil
  exact key _ acc'.toList (by simpa using h1) (fun j v hj => h2 j v (by simpa using hj))
theorem Wp_tuple_list {l : Addr} {xs : List Value} (hl : h.IsList l xs.toArray) (hsz : xs.length ≤ sizeLine) (H : ∀ a h', Fresh h a (.tup xs) h' → Q (.ref a) h') : Wp (model prog w) A (call (.type "tuple") [.ref l]) Q h := fun s E e => by
  subst e
  refine call_tuple_list hl (hsz := by simpa using hsz) fun h' hk => ⟨Same.mk' s _ s.toks, H _ _ ⟨fun b o e => Heap.get?_push_of_some _ (hk b o e), ?_, _, Heap.get?_push_size _ rfl, 0, rfl⟩⟩
  cases q : s.heap.get? h'.objs.size with
  | none => rfl
  | some o => exact absurd (Heap.lt_size (hk _ _ q)) (Nat.lt_irrefl _)

theorem Wp_addLists {l b : Addr} {vs ws : List Value} (hl : h.IsList l vs.toArray) (hb : h.IsList b ws.toArray) (hsz : vs.length + ws.length ≤ sizeLine) (H : ∀ a h', Fresh h a (.list (vs ++ ws)) h' → Q (.ref a) h') :
    Wp (model prog w) A (binaryOp .Add (.ref l) (.ref b)) Q h := fun s E e => by
  subst e
  obtain ⟨⟨cls, dd, data, sl⟩, ho, hc, n, hd⟩ := id hl
  obtain ⟨⟨cls2, dd2, data2, sl2⟩, ho2, hc2, n2, hd2⟩ := id hb
  simp only at hc hd hc2 hd2
  subst hc hd hc2 hd2
  have e : vs.toArray ++ ws.toArray = (vs ++ ws).toArray := by simp
  refine concat_meets ⟨_, ho, rfl⟩ ⟨_, ho2, rfl⟩ noFill_list_add seq_list_add PySem.F.slot_list_add PySem.F.entry_list_add (PySem.F.args_list_add_2 _ _) (list_addW l b vs.toArray ws.toArray n n2 dd dd2 sl sl2 (by simpa using hsz)) ⟨ho, ho2, ?_⟩
  rw [e]
  exact ⟨Same.mk' s _ _, H _ _ (Fresh.push _ rfl ⟨_, rfl⟩)⟩

theorem Wp_mulList {l : Addr} {v : Value} {x : Int} {u : Tok} (hl : IsAt h l (.list [v])) (h0 : 0 ≤ x) (hx : x ≤ 2 ^ 20) (H : ∀ a h', Fresh h a (.list (List.replicate x.toNat v)) h' → Q (.ref a) h') :
    Wp (model prog w) A (binaryOp .Mult (.ref l) (.int x u)) Q h := fun s E e => by
  subst e
  obtain ⟨o, ho, k, rfl⟩ := hl
  have key : ∀ n : Nat, List.foldl (fun x1 x2 => x1 ++ x2) (#[] : Array Value) (List.replicate n #[v]) = (List.replicate n v).toArray := by
    intro n
    have gen : ∀ (n : Nat) (acc : Array Value), List.foldl (fun x1 x2 => x1 ++ x2) acc (List.replicate n #[v]) = acc ++ (List.replicate n v).toArray := by
      intro n
      induction n with
      | zero => intro acc; simp
      | succ n ih => intro acc; rw [List.replicate_succ, List.foldl_cons, ih, List.replicate_succ]; apply Array.toList_inj.mp; simp
    rw [gen]; simp
  refine wpAny_binaryOp_repeat_ref (T := "list") (U := "int") (by decide) ⟨_, ho, rfl⟩ (fun s' => typeIs_int s' x u) noFill_list_mul F.fills_int_mul F.slot_int_rmul repeat_list F.slot_int_index.lookup
    (call_meets F.slot_int_rmul (typeIs_int s x u) F.entry_int_rmul (F.args_int_rmul_2 _ _) (int___rmul___int_list x u l [v].toArray k)
      ⟨ho, rfl, ⟨_, ho, rfl⟩, call_meets F.slot_list_mul ⟨_, ho, rfl⟩ F.entry_list_mul (F.args_list_mul_2 _ _)
        (AutoListH.list___mul___list_int_3 l [v].toArray k x u (by simp [Builtin.List.listFitsIndex]; omega) (by simp; omega) (by simp [Builtin.List.listTooLong, sizeLine]; omega))
        ⟨ho, Same.mk' s _ _, ?_⟩⟩)
  refine H _ _ ?_
  have e : List.foldl (fun x1 x2 => x1 ++ x2) #[] (List.replicate (if ([v].toArray).isEmpty = true then 0 else x.toNat) [v].toArray) = (List.replicate x.toNat v).toArray := by
    rw [if_neg (by simp)]; exact key _
  rw [e]
  exact Fresh.push _ rfl ⟨0, rfl⟩
end

open PySem PySem.W PySem.Calls PyProof.Rows
set_option Elab.async false

section
variable {prog : Program} {w : World} {A : Around} {h : Heap} {env : Env} {K : Frag} {Q : Value → Heap → Prop}

/- slices -/
theorem Wp_part_none {Q : Value → Heap → Prop} (H : Q .none h) : Wp (model prog w) A (evalPart none env) Q h := Wp_pure H
theorem Wp_part_some {e : Expr} (H : Wp (model prog w) A (eval e env) Q h) : Wp (model prog w) A (evalPart (some e) env) Q h := H
theorem Wp_Slice {lower upper : Option Expr} {p : Pos}
    (H : Wp (model prog w) A (evalPart lower env) (fun l h₁ => Wp (model prog w) A (evalPart upper env) (fun u h₂ => ∀ a h', Fresh h₂ a (.obj { cls := .type "slice", data := .fields #[l, u, .none] }) h' → Q (.ref a) h') h₁) h) :
    Wp (model prog w) A (eval (.Slice lower upper none p) env) Q h := fun s E e => by
  refine wpAny_Slice (H.out e fun l s₁ e₁ q => q.out rfl fun u s₂ e₂ q => ?_)
  exact wpAny_pure ⟨(e₁.trans e₂).trans (Same.mk' s₂ _ s₂.toks), q _ _ (Fresh.push _ rfl rfl)⟩
theorem Wp_item_slice {value : Expr} {lower upper : Option Expr} {p : Pos} {l sl : Addr} {xs : List Value} {vl vu : Value} {lo hi : Option Int} (hs : IsAt h sl (.obj { cls := .type "slice", data := .fields #[vl, vu, .none] }))
    (hl : h.IsList l xs.toArray) (pl : IsPart vl lo) (pu : IsPart vu hi) (hsz : xs.length ≤ sizeLine) (H : ∀ a h', Fresh h a (.list (slicePick xs.toArray lo hi none).toList) h' → Q (.ref a) h') :
    Wp (model prog w) A (subscriptTail value (.Slice lower upper none p) (.ref l) (.ref sl)) Q h := fun s E e => by
  subst e
  obtain ⟨o, ho, rfl⟩ := hs
  refine tail_any (ops := [.ref sl, .ref l]) hl.typeIs slot_list_getitem.lookup (wpAny_getItem_list_slice hl ⟨_, ho, rfl, rfl⟩ pl pu .none (by simp) ?_ (by simpa using hsz)) rfl
  refine ⟨Same.mk' s _ s.toks, H _ _ (Fresh.push _ rfl ⟨0, by simp⟩)⟩
theorem pick_run (xs : List Value) (a b : Nat) (hb : b ≤ xs.length) (hab : a ≤ b) : (slicePick xs.toArray (some (a : Int)) (some (b : Int)) none).toList = (xs.drop a).take (b - a) := by
  rw [slicePick_run _ _ _ (by simpa using hb) hab]
theorem pick_from (xs : List Value) (a : Nat) : (slicePick xs.toArray (some (a : Int)) none none).toList = xs.drop a := by rw [slicePick_from']
theorem pick_upto (xs : List Value) (b : Nat) : (slicePick xs.toArray none (some (b : Int)) none).toList = xs.take b := by rw [slicePick_upto']

/- sum, max, sorted -/
theorem Wp_sum {l : Addr} {xs : List Value} {ns : List Int} (hA : A.handled = none) (hl : h.IsList l xs.toArray) (hi : IntsAre xs ns) (H : ∀ t h', Ext h h' → Q (.int ns.sum t) h') :
    Wp (model prog w) A (call (.builtin "sum") [.ref l]) Q h := fun s E e => by
  subst e
  obtain ⟨zs, hz⟩ := hi.allInts.items
  have e1 : numsOf xs.toArray.toList = ns := by rw [show xs.toArray.toList = xs from rfl, hi.numsOf]
  rw [hz] at hl
  refine sum_intListG hA hl fun h' tk t' hk => ⟨Same.mk' s h' tk, ?_⟩
  have := H t' h' hk
  rw [preSum_eq, List.take_of_length_le (by simp)]
  rw [← e1, hz, nums_intItems] at this
  exact this

theorem argBest_le (bt : Nat → Nat → Bool) : ∀ k, argBest bt k ≤ k
  | 0 => Nat.le_refl _
  | k + 1 => by
    unfold argBest
    split
    · exact Nat.le_refl _
    · exact Nat.le_succ_of_le (argBest_le bt k)
theorem argBest_max (f : Nat → Int) : ∀ k j, j ≤ k → f j ≤ f (argBest (fun i j => decide (f i > f j)) k)
  | 0, j, hj => by have : j = 0 := by omega
                   subst this; exact Int.le_refl _
  | k + 1, j, hj => by
    have ih := argBest_max f k
    unfold argBest
    by_cases hg : f (k + 1) > f (argBest (fun i j => decide (f i > f j)) k)
    · simp only [hg, decide_true, if_true]
      by_cases e : j = k + 1
      · subst e; exact Int.le_refl _
      · exact Int.le_of_lt (Int.lt_of_le_of_lt (ih j (by omega)) hg)
    · simp only [hg, decide_false, Bool.false_eq_true, if_false]
      by_cases e : j = k + 1
      · subst e; omega
      · exact ih j (by omega)
theorem Wp_max {l : Addr} {xs : List Value} {ns : List Int} (hA : A.handled = none) (hl : h.IsList l xs.toArray) (hi : IntsAre xs ns) (hne : ns ≠ []) (H : ∀ m t h', Ext h h' → m ∈ ns → (∀ n ∈ ns, n ≤ m) → Q (.int m t) h') :
    Wp (model prog w) A (call (.builtin "max") [.ref l]) Q h := fun s E e => by
  subst e
  obtain ⟨zs, hz⟩ := hi.allInts.items
  have e1 : ns = numsOf (intItems zs).toList := by
    rw [← hz, show xs.toArray.toList = xs from rfl, hi.numsOf]
  have e1 : ns = zs.toList.map (·.1) := by rw [e1]; exact nums_intItems zs
  have hsz : 0 < zs.size := by
    cases q : zs.toList with
    | nil => rw [q] at e1; exact absurd e1 hne
    | cons a r => rw [← Array.length_toList, q]; exact Nat.succ_pos _
  rw [hz] at hl
  refine max_intList hA hl hsz fun v h' tk hv hk => ⟨Same.mk' s h' tk, ?_⟩
  have hk' := argBest_le (fun i j => decide (numAt zs i > numAt zs j)) (zs.size - 1)
  generalize hb : argBest (fun i j => decide (numAt zs i > numAt zs j)) (zs.size - 1) = b at hv hk'
  have hlt : b < zs.size := by omega
  have hv' : v = .int (zs[b]).1 (zs[b]).2 := by simp [intItems, hlt] at hv; exact hv.symm
  subst hv'
  refine H _ _ h' hk ?_ fun n hn => ?_
  · rw [e1]; exact List.mem_map.mpr ⟨zs[b], by simp, rfl⟩
  · rw [e1] at hn
    obtain ⟨p, hp, rfl⟩ := List.mem_map.mp hn
    obtain ⟨j, hj, rfl⟩ := List.getElem_of_mem hp
    have hj' : j < zs.size := by simpa using hj
    have := argBest_max (numAt zs) (zs.size - 1) j (by omega)
    rw [hb] at this
    simpa [numAt, hj', hlt] using this

theorem sortedAll_ext (h : Heap) (vs : List Value) (out : Array Value) : Ext h (sortedAll h vs out) := fun b o e => by
  have hlt := Heap.lt_size e
  have s1 : ((h.push (seqObj "list" #[] 0)).update h.objs.size (Obj.mapSeq (· ++ vs.toArray))).objs.size = h.objs.size + 1 := by rw [Heap.size_update, Heap.size_push]
  unfold sortedAll sortedHeap
  rw [Heap.get?_update_ne _ _ _ _ (Nat.ne_of_lt (Nat.lt_succ_of_lt hlt))]
  refine Heap.get?_push_of_some _ (Heap.get?_push_of_some _ ?_)
  rw [Heap.get?_update_ne _ _ _ _ (Nat.ne_of_lt (Nat.lt_succ_of_lt hlt))]
  refine Heap.get?_push_of_some _ ?_
  rw [Heap.get?_update_ne _ _ _ _ (Nat.ne_of_lt hlt)]
  exact Heap.get?_push_of_some _ e
theorem sortedAll_at (h : Heap) (vs : List Value) (out : Array Value) : IsAt (sortedAll h vs out) (h.objs.size + 1) (.list out.toList) := by
  have s1 : ((h.push (seqObj "list" #[] 0)).update h.objs.size (Obj.mapSeq (· ++ vs.toArray))).objs.size = h.objs.size + 1 := by rw [Heap.size_update, Heap.size_push]
  unfold sortedAll sortedHeap
  generalize hH : (h.push (seqObj "list" #[] 0)).update h.objs.size (Obj.mapSeq (· ++ vs.toArray)) = H at s1
  have g1 : (H.push (seqObj "list" vs.toArray 0)).get? (h.objs.size + 1) = some (seqObj "list" vs.toArray 0) := by rw [← s1]; exact Heap.get?_push_size _ rfl
  have g2 := Heap.get?_update_self (Obj.mapSeq fun _ => (#[] : Array Value)) g1 rfl
  have g3 := Heap.get?_push_of_some (seqObj "list" #[] 0) (Heap.get?_push_of_some (seqObj "tuple" vs.toArray 0) g2)
  have g4 := Heap.get?_update_self (Obj.mapSeq fun _ => out) g3 rfl
  exact ⟨_, g4, _, by simp [Obj.mapSeq]; rfl⟩
theorem Wp_sorted {l : Addr} {xs : List Value} {ns : List Int} (hl : h.IsList l xs.toArray) (hi : IntsAre xs ns) (h64 : xs.length < 64)
    (H : ∀ a h' ys ms, Fresh h a (.list ys) h' → IntsAre ys ms → ms.Perm ns → ms.Pairwise (· ≤ ·) → Q (.ref a) h') : Wp (model prog w) A (call (.builtin "sorted") [.ref l]) Q h := fun s E e => by
  subst e
  refine sorted_ints hl hi h64 fun out ms h1 h2 h3 => ⟨Same.mk' s _ s.toks, H _ _ out.toList ms ⟨sortedAll_ext _ _ _, ?_, sortedAll_at _ _ _⟩ h1 h2 h3⟩
  cases q : s.heap.get? (s.heap.objs.size + 1) with
  | none => rfl
  | some o => exact absurd (Heap.lt_size q) (Nat.not_lt.mpr (Nat.le_succ _))

/- comparisons of lists -/
theorem Wp_eq_ints {a b : Addr} {xs ys : List Value} {ns ms : List Int} {n : Nat} (hA : Ok A n) (ha : h.IsList a xs.toArray) (hb : h.IsList b ys.toArray) (hi : IntsAre xs ns) (hj : IntsAre ys ms) (H : Q (.bool (decide (ns = ms))) h) :
    Wp (model prog w) A (compareOp .Eq (.ref a) (.ref b)) Q h := fun s E e => by subst e; exact ke_eq_ints ha hb hi hj hA.units ⟨Same.rfl' s, H⟩
theorem Wp_ne_ints {a b : Addr} {xs ys : List Value} {ns ms : List Int} {n : Nat} (hA : Ok A n) (ha : h.IsList a xs.toArray) (hb : h.IsList b ys.toArray) (hi : IntsAre xs ns) (hj : IntsAre ys ms) (H : Q (.bool (!decide (ns = ms))) h) :
    Wp (model prog w) A (compareOp .NotEq (.ref a) (.ref b)) Q h := fun s E e => by subst e; exact ke_ne_ints ha hb hi hj hA.units ⟨Same.rfl' s, H⟩

theorem reads_ints : ∀ {xs : List Value} {ns : List Int}, IntsAre xs ns → ReadsAll h xs (ns.map PyData.int) []
  | _, _, .nil => .nil
  | _, _, .cons _ t r => .cons (as := []) (bs := []) (.int _ t) (reads_ints r)
theorem reads_list {a : Addr} {xs : List Value} {ns : List Int} (hl : h.IsList a xs.toArray) (hi : IntsAre xs ns) : Reads h (.ref a) (.list (ns.map PyData.int)) [a] := by
  obtain ⟨o, ho, hc, n, hd⟩ := hl
  exact .list ho hc hd (reads_ints hi)
theorem any_int (ns : List Int) (i : Int) : ((ns.map PyData.int).any fun y => PyData.eqv y (.int i)) = decide (i ∈ ns) := by
  induction ns with
  | nil => simp
  | cons n r ih =>
    rw [List.map_cons, List.any_cons, ih]
    have : PyData.eqv (.int n) (.int i) = decide (n = i) := by simp [PyData.eqv]; rfl
    rw [this]
    by_cases e : n = i
    · subst e; simp
    · have : i ≠ n := fun q => e q.symm
      simp [e, this]
theorem Wp_notIn_ints {a : Addr} {xs : List Value} {ns : List Int} {i : Int} {t : Tok} {n : Nat} (hA : Ok A n) (ha : h.IsList a xs.toArray) (hi : IntsAre xs ns) (H : Q (.bool (!decide (i ∈ ns))) h) :
    Wp (model prog w) A (compareOp .NotIn (.int i t) (.ref a)) Q h := fun s E e => by
  subst e
  refine SeqAt.notIn_list_reads (reads_list ha hi) (.int i t) (ke_canLayAll0 ns) rfl ?_ ⟨Same.rfl' s, by rw [any_int]; exact H⟩
  have := hA.units
  rw [ke_depthAll]
  omega
end

open PySem PySem.W PySem.Calls PyProof.Rows
set_option Elab.async false

structure ListMeth (name : Str) (id : String) : Prop where
  slot : Slot "list" name id
  ty : typeOf (.builtin id) = pure (.type "method_descriptor")

section
variable {prog : Program} {w : World} {A : Around} {h : Heap} {env : Env} {K : Frag} {Q : Value → Heap → Prop}

theorem Wp_meth {name : Str} {id : String} (m : ListMeth name id) {o : Expr} {apos pos : Pos} {args : List Expr}
    (H : Wp (model prog w) A (eval o env) (fun ov h₁ => ∃ D xs, ov = .ref D ∧ IsAt h₁ D (.list xs) ∧ Wp (model prog w) A (callWith pos (.builtin id) [.ref D] (backTo pos (starEach args env)) (backToKw pos (keywordEach [] env))) Q h₁) h)
    (hbase : attributeBase o name env (eval o env) = eval o env)
    (hfew : ((backTo pos (starEach args env)).all (fun x => !x.1) && (backToKw pos (keywordEach [] env)).all (fun x => x.1.isSome)
      && decide (args.length + ([] : List Keyword).length + (if ([] : List Keyword).isEmpty then 0 else 1) < 30)) = true)
    (hline : (apos.endLine == pos.line) = true) :
    Wp (model prog w) A (eval (.Call (.Attribute o name apos) args [] pos) env) Q h := fun s E e => by
  refine wpAny_Call_method hbase hfew hline PySem.F.plainAttrs_list m.slot m.ty (H.out e fun ov s₁ e₁ q => ?_)
  obtain ⟨D, xs, rfl, ⟨ob, hob, n, rfl⟩, q⟩ := q
  refine ⟨⟨_, hob, rfl⟩, fun a ha => ?_, q.out rfl fun _ _ e₂ q => ⟨e₁.trans e₂, q⟩⟩
  cases ha; exact ⟨_, hob, rfl⟩

theorem Wp_callM1 {f d : Value} {pos : Pos} {e : Expr} {rest : List Expr} {Q : Value → Heap → Prop} (m : Machine f)
    (H : Wp (model prog w) A (spliced (backTo pos (starEach (e :: rest) env))) (fun vs h₁ => Wp (model prog w) A (call f (d :: vs)) Q h₁) h)
    (he : starEach (e :: rest) env = (false, eval e env) :: starEach rest env := by rfl) (hplain : (backTo pos (starEach rest env)).any (·.1) = false := by rfl) :
    Wp (model prog w) A (callWith pos f [d] (backTo pos (starEach (e :: rest) env)) (backToKw pos (keywordEach [] env))) Q h := Wp_callM m H he hplain
theorem Wp_callMn {f : Value} {pos : Pos} {e : Expr} {rest : List Expr} {Q : Value → Heap → Prop} (m : Machine f)
    (H : Wp (model prog w) A (spliced (backTo pos (starEach (e :: rest) env))) (fun vs h₁ => Wp (model prog w) A (call f vs) Q h₁) h)
    (he : starEach (e :: rest) env = (false, eval e env) :: starEach rest env := by rfl) (hplain : (backTo pos (starEach rest env)).any (·.1) = false := by rfl) :
    Wp (model prog w) A (callWith pos f [] (backTo pos (starEach (e :: rest) env)) (backToKw pos (keywordEach [] env))) Q h := Wp_callM m H he hplain
theorem Wp_callM01 {f d : Value} {pos : Pos} {Q : Value → Heap → Prop} (m : Machine f)
    (H : Wp (model prog w) A (call f [d]) Q h) :
    Wp (model prog w) A (callWith pos f [d] (backTo pos (starEach [] env)) (backToKw pos (keywordEach [] env))) Q h := Wp_callM0 m H

/-- a call of a def of the text, by places alone -/
theorem Wp_callD {g env' vars vals caps N} (_S : St K g env' vars vals caps N h) {f : Value} {pos : Pos} {e : Expr} {rest : List Expr} (hk : keepIn K f = true)
    (H : Wp (model prog w) A (spliced (backTo pos (starEach (e :: rest) env))) (fun vs h₁ => K.In h₁ ∧ Wp (model prog w) A (call f vs) Q h₁) h)
    (he : starEach (e :: rest) env = (false, eval e env) :: starEach rest env := by rfl) (hplain : (backTo pos (starEach rest env)).any (·.1) = false := by rfl) :
    Wp (model prog w) A (callWith pos f [] (backTo pos (starEach (e :: rest) env)) (backToKw pos (keywordEach [] env))) Q h := Wp_callK hk H he hplain
theorem Wp_callDkw {g env' vars vals caps N} (_S : St K g env' vars vals caps N h) {f : Value} {pos : Pos} {e : Expr} {rest : List Expr} {kws : List Keyword} (hk : keepIn K f = true)
    (H : Wp (model prog w) A (spliced (backTo pos (starEach (e :: rest) env))) (fun vs h₁ => Wp (model prog w) A (evalAll ((backToKw pos (keywordEach kws env)).map (·.2)))
      (fun ks h₂ => K.In h₂ ∧ Wp (model prog w) A (call f vs (((backToKw pos (keywordEach kws env)).filterMap (·.1)).zip ks)) Q h₂) h₁) h)
    (he : starEach (e :: rest) env = (false, eval e env) :: starEach rest env := by rfl) (hplain : (backTo pos (starEach rest env)).any (·.1) = false := by rfl)
    (hall : (backToKw pos (keywordEach kws env)).all (·.1.isSome) = true := by rfl) (hall' : (backToKw pos (keywordEach kws env)).any (·.1.isNone) = false := by rfl) :
    Wp (model prog w) A (callWith pos f [] (backTo pos (starEach (e :: rest) env)) (backToKw pos (keywordEach kws env))) Q h := Wp_callKkw hk H he hplain hall hall'

theorem Wp_setItem {g env' vars vals caps N N'} (S : St K g env' vars vals caps N h) {D : Addr} {xs : List Value} {k : Int} {t : Tok} {v : Value} {Q : Unit → Heap → Prop} (hD : (D, .list xs) ∈ N ∨ (D, .ilist xs) ∈ N) (p : LPut N D (.ilist (xs.set k.toNat v)) N')
    (h0 : 0 ≤ k) (hfit : k < 2 ^ 62) (hn : k < xs.length) (H : ∀ h', St K g env' vars vals caps N' h' → Q () h') : Wp (model prog w) A (setItem (.ref D) (.int k t) v) Q h := fun s E e => by
  subst e
  have hl : s.heap.IsList D xs.toArray := hD.elim (fun x => (S.at x).isList) (fun x => (S.at x).isIList)
  refine wpAny_setItem_list hl h0 (by omega) (by simpa using hn) fun h' hl' hs' => ⟨Same.mk' s h' s.toks, H h' (S.upd p hs'.extBut ?_)⟩
  obtain ⟨o, ho, hc, n, hd⟩ := hl'
  exact ⟨o, ho, hc, n, by simpa using hd⟩
end

local macro_rules | `(tactic| walk_at "sub") => `(tactic| with_reducible (repeat (first | exact List.Sublist.refl _ | apply List.Sublist.cons_cons | apply List.Sublist.cons)))
theorem Wp_iter_range0 {prog : Program} {w : World} {A : Around} {h : Heap} {l : Addr} {n : Nat} {t u v : Tok} {Q : Value → Heap → Prop} (hl : IsAt h l (rngCn 0 (n : Int) t u v)) (hs : n ≤ 2 ^ 60)
    (H : ∀ I h', Fresh h I ((Src.rng 0 n).cn 0) h' → Q (.ref I) h') : Wp (model prog w) A (pyIter (.ref l)) Q h :=
  Wp_iter_range hl (small_of (by omega) (by omega) (by omega) (by omega)) fun I h' F => H I h' (by rw [show ((n : Int) - 0).toNat = n by omega] at F; exact F)
theorem St.weakL {K : Frag} {g h : Heap} {env : Env} {vars : List Str} {vals : List (Option Value)} {caps : List (Str × Value)} {N : List (Addr × Cn)} {D : Addr} {vs : List Value}
    (S : St K g env vars vals caps ((D, .list vs) :: N) h) : St K g env vars vals caps ((D, .ilist vs) :: N) h :=
  S.upd .head (fun _ _ _ e => e) (S.at (.head _)).weakL
theorem fmod_lt {a : Int} {L : Nat} (h : 0 < L) : 0 ≤ a.fmod L ∧ a.fmod L < L := by
  rw [Int.fmod_eq_emod_of_nonneg _ (by omega)]
  exact ⟨Int.emod_nonneg _ (by omega), Int.emod_lt_of_pos _ (by omega)⟩
theorem St.listInts {K : Frag} {g h : Heap} {env : Env} {vars : List Str} {vals : List (Option Value)} {caps : List (Str × Value)} {N : List (Addr × Cn)} {D : Addr} {vs : List Value} {ms : List Int}
    (S : St K g env vars vals caps ((D, .list vs) :: N) h) (hI : IntsAre vs ms) : ∃ vs', St K g env vars vals caps ((D, .list vs') :: N) h ∧ IntsAre vs' ms := ⟨vs, S, hI⟩
theorem meth_append : ListMeth "append" "list.append" := ⟨slot_list_append, PySem.F.type_list_append⟩

set_option hygiene false in
local macro_rules | `(tactic| walk_at "m") => `(tactic| with_reducible first
  | (refine Wp_half ?_; intro t)
  | refine Wp_callMn (by constructor) ?_ (by with_unfolding_all rfl) (by with_unfolding_all rfl)
  | refine Wp_callM1 (by constructor) ?_ (by with_unfolding_all rfl) (by with_unfolding_all rfl)
  | refine Wp_callM01 (by constructor) ?_
  | (refine Wp_newList (by with_unfolding_all exact Nat.le_of_ble_eq_true rfl) ?_; intro r h F; replace S := F.st S; clear F)
  | (refine Wp_newTuple (by with_unfolding_all exact Nat.le_of_ble_eq_true rfl) ?_; intro r h F; replace S := F.st S; clear F)
  | (refine Wp_mod (by with_unfolding_all decide) ?_; intro t)
  | refine Wp_callD S (by with_unfolding_all rfl) ?_ (by with_unfolding_all rfl) (by with_unfolding_all rfl)
  | refine Wp_callDkw S (by with_unfolding_all rfl) ?_ (by with_unfolding_all rfl) (by with_unfolding_all rfl) (by with_unfolding_all rfl) (by with_unfolding_all rfl)
  | refine Wp_kw_cons ?_
  | refine Wp_kw_nil ?_
  | (refine ⟨S.wd.K.keeps S.keep, ?_⟩)
  | refine Wp_Expr ?_ S.kfun (by with_unfolding_all rfl)
  | refine Wp_Assign_Subscript ?_ (by with_unfolding_all rfl)
  | (refine Wp_meth meth_append ?_ (by with_unfolding_all rfl) (by with_unfolding_all rfl) (by with_unfolding_all rfl))
  | (refine Wp_Slice ?_)
  | refine Wp_part_none ?_
  | refine Wp_part_some ?_
  | (refine Wp_abs ?_; intro t)
  | (refine Wp_range1 ?_; intro r h t u v F; replace S := F.st S; clear F)
  | (refine Wp_range2 ?_; intro r h t u v F; replace S := F.st S; clear F))

open PySem PySem.W PySem.Calls PyProof.Rows
set_option Elab.async false

section
variable {prog : Program} {w : World} {A : Around} {h : Heap} {env : Env}

theorem Cp_compStart2 {elt target iter : Expr} {ifs : List Expr} {g₀ : Comprehension} {scope : Scope} {pos : Pos} {it acc : Value} {Q : Flow → Heap → Prop}
    (h0 : Cp (model prog w) A (.compLoop (.ListComp elt [g₀, ⟨target, iter, ifs, 0⟩] scope pos) 1 it acc env) Q h)
    (h1 : Wp (model prog w) A (pyIter it) (fun it' h' => Cp (model prog w) A (.compLoop (.ListComp elt [g₀, ⟨target, iter, ifs, 0⟩] scope pos) 1 it' acc env) Q h') h) :
    Cp (model prog w) A (.compStart (.ListComp elt [g₀, ⟨target, iter, ifs, 0⟩] scope pos) 1 it acc env) Q h := fun s hs => by
  refine codeAny_of_tree ?_
  show wpAny _ _ ((compStart (.ListComp elt [g₀, ⟨target, iter, ifs, 0⟩] scope pos) 1 it acc env).onRaise (fun x => do noteFrame x env; standAt theWindowsPlace)) _ _ s
  refine wpAny_notedAt ?_
  unfold compStart
  show wpAny _ _ (ask >>= _) _ _ s
  refine wpAny_bind (wpAny_askSetting (wpAny_ite ?_))
  split
  · first
      | exact wpAny_bind (wpAny_pure (wpAny_pure (And.intro rfl (h0 s hs))))
      | exact wpAny_pure (And.intro rfl (h0 s hs))
  · have h' : ∀ E, wpAny (model prog w) A (pyIter it) (fun it' s' => codeAny (model prog w) A (.compLoop (.ListComp elt [g₀, ⟨target, iter, ifs, 0⟩] scope pos) 1 it' acc env) (fun r s'' => ∃ f, r = .ok f ∧ Same s s'' ∧ Q f s''.heap) s') E s := fun E =>
      h1.out hs fun it' s' e q => q.out rfl fun f s'' e' q => ⟨f, rfl, e.trans e', q⟩
    first
      | exact wpAny_bind (wpAny_rule (wpAny_bind (wpAny_standAt (wpAny_bind (wpAny_mono (h' _) (fun it' s' h' => wpAny_pure (And.intro rfl h')) fun _ _ x => x)))))
      | (refine wpAny_bind (wpAny_rule ?_); show wpAny _ _ (standAt iter.pos >>= _) _ _ s; exact wpAny_bind (wpAny_standAt (wpAny_bind (wpAny_mono (h' _) (fun it' s' h' => wpAny_pure (And.intro rfl h')) fun _ _ x => x))))

theorem Wp_runOwn {c : Code} {Q : Flow → Heap → Prop} (H : Cp (model prog w) A c Q h) : Wp (model prog w) A (runOwn c env) Q h :=
  fun _ _ e => wpAny_runOwn (H.out e fun _ _ e q => ⟨e, q⟩)
theorem Wp_innerS {elt : Expr} {gens : List Comprehension} {scope : Scope} {pos : Pos} {iter : Expr} {acc : Value} {c : Code} {Q : Fin → Heap → Prop}
    (H : Wp (model prog w) A (eval iter env) (fun x h₁ => Wp (model prog w) A (pyIter x) (fun it h₂ => Cp (model prog w) A (.compStart (.ListComp elt gens scope pos) 1 it acc env) (fun _ h₃ => Q (.again c) h₃) h₂) h₁) h)
    (hs : ∀ x, foldedSetIterable iter env x = pure x := by intro _; rfl) : Wp (model prog w) A (innerS elt gens scope pos iter acc env c) Q h := by
  unfold innerS
  refine Wp_bind (H.mono fun x h₁ H₁ => Wp_bind (Wp_standAt (Wp_bind (Wp_of_eq (hs x) (Wp_pure (Wp_bind (Wp_holding (H₁.mono fun it h₂ H₂ => Wp_bind ((Wp_runOwn H₂).mono fun _ h₃ q => ?_)))))))))
  exact Wp_pure q
end

section
variable {prog : Program} {w : World} {A : Around} {K : Frag} {g h : Heap} {env : Env} {vars : List Str} {vals : List (Option Value)} {caps : List (Str × Value)} {N : List (Addr × Cn)}

theorem Src.base_ext {src : Src} {g h : Heap} (b : src.base g) (e : Ext g h) : src.base h := by
  cases src with
  | lst l vs => exact isListExt b e
  | tpl l vs => obtain ⟨o, ho, r⟩ := b; exact ⟨o, e _ _ ho, r⟩
  | rng a n => trivial
  | rngs a c n => trivial
theorem Src.base_but {src : Src} {i : Nat} {I : Addr} {g h : Heap} (b : src.base h) (hi : IsAt h I (src.cn i)) (e : Heap.ExtBut I h g) : src.base g := by
  cases src with
  | lst l vs =>
    obtain ⟨o, ho, r⟩ := b
    refine ⟨o, e _ _ (fun q => ?_) ho, r⟩
    obtain ⟨o', ho', hc'⟩ := hi
    rw [q, ho'] at ho; cases ho
    have := hc'.1
    rw [r.1] at this; exact absurd this (by simp)
  | tpl l vs =>
    obtain ⟨o, ho, r⟩ := b
    refine ⟨o, e _ _ (fun q => ?_) ho, r⟩
    obtain ⟨o', ho', hc'⟩ := hi
    rw [q, ho'] at ho; cases ho
    have := hc'.1
    rw [r.1] at this; exact absurd this (by simp)
  | rng a n => trivial
  | rngs a c n => trivial

/-- a comprehension of two clauses without tests -/
theorem CompGoal.two {I : Addr} {src : Src} {elt iter iter₂ : Expr} {x y : Str} {px py : Pos} {scope : Scope} {pos : Pos} {Q : Value → Heap → Prop}
    (S : St K g env vars vals caps ((I, src.cn 0) :: N) h) (hA : A.handled = none) (hb : src.base h) (caps' : List (Str × Value)) (len₂ : Nat → Nat) (item₂ : Nat → Nat → Value → Prop) (P : Nat → Nat → List Value → Heap → Prop)
    (hok : compOk scope [x, y] (caps'.map (·.1)) = true) (hcaps : CapsOk env h caps') (hs : ∀ (cenv : Env) v, foldedSetIterable iter₂ cenv v = pure v)
    (start : ∀ g', Ext g g' → P 0 0 [] g') (next : ∀ i ys g, P i (len₂ i) ys g → P (i + 1) 0 ys g) (hsz : ∀ i j ys g, P i j ys g → ys.length ≤ sizeLine)
    (source : ∀ (cenv : Env) g' D ys i v oy h', cenv.scope = relabel scope env → Ext g g' → (∀ q ∈ N, IsAt g' q.1 q.2) → i < src.len → src.item i v → P i 0 ys g' → St K g' cenv [x, y] [some v, oy] caps' [(I, src.cn (i + 1)), (D, .list ys)] h' →
      Wp (model prog w) A (eval iter₂ cenv) (fun x₂ h₁ => Wp (model prog w) A (pyIter x₂) (fun it₂ h₂ => ∃ I₂ src₂ g₂, it₂ = .ref I₂ ∧ Src.len src₂ = len₂ i ∧ (∀ j v, src₂.item j v → item₂ i j v) ∧ Ext g' g₂ ∧ src₂.base g₂ ∧ P i 0 ys g₂ ∧
        St K g₂ cenv [x, y] [some v, oy] caps' ((I₂, src₂.cn 0) :: (I, src.cn (i + 1)) :: [(D, .list ys)]) h₂) h₁) h')
    (elem : ∀ (cenv : Env) g' D ys i j v v₂ I₂ c₂ h', cenv.scope = relabel scope env → Ext g g' → (∀ q ∈ N, IsAt g' q.1 q.2) → i < src.len → src.item i v → j < len₂ i → item₂ i j v₂ → P i j ys g' →
      St K g' cenv [x, y] [some v, some v₂] caps' ((I₂, c₂) :: (I, src.cn (i + 1)) :: [(D, .list ys)]) h' →
      Wp (model prog w) A (eval elt cenv) (fun y' h₂ => ∃ g₂, Ext g' g₂ ∧ P i (j + 1) (ys ++ [y']) g₂ ∧ St K g₂ cenv [x, y] [some v, some v₂] caps' ((I₂, c₂) :: (I, src.cn (i + 1)) :: [(D, .list ys)]) h₂) h')
    (H : ∀ ys g'' D h₅, P src.len 0 ys g'' → Ext g g'' → Ext g'' h₅ → g''.get? D = none → h.get? D = none → St K g env vars vals caps ((D, .list ys) :: N) h₅ → Q (.ref D) h₅) :
    CompGoal prog w A K env elt [⟨.Name x px, iter, [], 0⟩, ⟨.Name y py, iter₂, [], 0⟩] scope pos (.ref I) Q h := by
  have gI := (S.news (I, src.cn 0) (.head _)).2.2.1
  have hggOf : ∀ g', Heap.ExtBut I h g' → Ext g g' := fun g' hx b o e => hx b o (fun q => by rw [q, gI] at e; cases e) (S.keep b o e)
  refine ⟨I, src, g, vars, vals, caps, N, rfl, S, [x, y], caps', fun ys g'' => P src.len 0 ys g'', hok, hcaps, fun cenv g' D h' hsc hx hD Sc => ?_, fun ys g'' D h₅ hP hx hg hgD hD Sf => H ys g'' D h₅ hP (hggOf g'' hx) hg hgD hD Sf⟩
  have hgg : Ext g g' := hggOf g' hx
  have hNN : ∀ q ∈ N, IsAt g' q.1 q.2 := fun q hq => by
    have nd := List.nodup_cons.mp S.nodN
    exact (S.news q (.tail _ hq)).1.but hx fun z => nd.1 (by have := List.mem_map_of_mem (f := (·.1)) hq; rwa [z] at this)
  have hbg : src.base g' := Src.base_but hb (S.at (.head _)) hx
  refine Cp_compLoop (turn2a ..) src (fun i g₁ vals₁ N₁ => Ext g' g₁ ∧ ∃ ys o o', vals₁ = [o, o'] ∧ N₁ = [(D, .list ys)] ∧ P i 0 ys g₁) hA Sc ⟨Ext.refl _, [], none, none, rfl, rfl, start g' hgg⟩ ?_ ?_ ?_
  · rintro i g₁ vals₁ N₁ h₁ ⟨hx₁, _⟩ S₁
    exact Src.base_ext (Src.base_ext hbg hx₁) S₁.keep
  · rintro i v g₁ vals₁ N₁ h₁ hi hv ⟨hx₁, ys, o, o', rfl, rfl, hP⟩ S₁
    refine Wp_letOwned_Name (Wp_assign_Name (Wp_store S₁ .head fun h₂ S₂ => Wp_tests_nil ?_))
    refine Wp_innerS ?_ (hs cenv)
    refine (source cenv g₁ D ys i v _ h₂ hsc (hgg.trans hx₁) (fun q hq => (hNN q hq).ext hx₁) hi hv hP S₂).mono fun x₂ h₃ H₃ => H₃.mono fun it₂ h₄ H₄ => ?_
    obtain ⟨I₂, src₂, g₂, rfl, hl₂, hi₂, hx₂, hb₂, hP₂, S₄⟩ := H₄
    have loop : Cp (model prog w) A (.compLoop (.ListComp elt [⟨.Name x px, iter, [], 0⟩, ⟨.Name y py, iter₂, [], 0⟩] scope pos) 1 (.ref I₂) (.ref D) cenv) (fun _ h₅ => Fin.again (.compLoop (.ListComp elt [⟨.Name x px, iter, [], 0⟩, ⟨.Name y py, iter₂, [], 0⟩] scope pos) 0 (.ref I) (.ref D) cenv) = .again (.compLoop (.ListComp elt [⟨.Name x px, iter, [], 0⟩, ⟨.Name y py, iter₂, [], 0⟩] scope pos) 0 (.ref I) (.ref D) cenv) ∧
        ∃ g'' vals' N', (Ext g' g'' ∧ ∃ ys o o', vals' = [o, o'] ∧ N' = [(D, .list ys)] ∧ P (i + 1) 0 ys g'') ∧ St K g'' cenv [x, y] vals' caps' ((I, src.cn (i + 1)) :: N') h₅) h₄ := by
      refine Cp_compLoop (turn2b ..) src₂ (fun j g₃ vals₃ N₃ => Ext g₂ g₃ ∧ ∃ ys o', vals₃ = [some v, o'] ∧ N₃ = (I, src.cn (i + 1)) :: [(D, .list ys)] ∧ P i j ys g₃) hA S₄ ⟨Ext.refl _, ys, _, rfl, rfl, hP₂⟩ ?_ ?_ ?_
      · rintro j g₃ vals₃ N₃ h₅ ⟨hx₃, _⟩ S₅
        exact Src.base_ext (Src.base_ext hb₂ hx₃) S₅.keep
      · rintro j v₂ g₃ vals₃ N₃ h₅ hj hv₂ ⟨hx₃, zs, o'', rfl, rfl, hP₃⟩ S₅
        have hxx : Ext g' g₃ := (hx₁.trans hx₂).trans hx₃
        refine Wp_letOwned_Name (Wp_assign_Name (Wp_store S₅ (.tail .head) fun h₆ S₆ => Wp_tests_nil ?_))
        refine Wp_bind (Wp_emit ((elem cenv g₃ D zs i j v v₂ I₂ _ h₆ hsc (hgg.trans hxx) (fun q hq => (hNN q hq).ext hxx) hi hv (by rw [← hl₂]; exact hj) (hi₂ j v₂ hv₂) hP₃ S₆).mono fun y' h₇ H₇ => ?_))
        obtain ⟨g₄, hx₄, hP₄, S₇⟩ := H₇
        refine Wp_append S₇ (D := D) (ys := zs) (.tail _ (.tail _ (.head _))) (.tail (.tail .head)) (hsz _ _ _ _ hP₃) fun h₈ S₈ => Wp_pure ⟨rfl, g₄, _, _, ⟨hx₃.trans hx₄, _, _, rfl, rfl, hP₄⟩, S₈⟩
      · rintro g₃ vals₃ N₃ h₅ ⟨hx₃, zs, o'', rfl, rfl, hP₃⟩ S₅
        refine ⟨rfl, g₃, _, _, ⟨(hx₁.trans hx₂).trans hx₃, zs, _, _, rfl, rfl, next _ _ _ (hl₂ ▸ hP₃)⟩, S₅⟩
    exact Cp_compStart2 loop (iter_self (i := 0) (S₄.at (.head _)) loop)
  · rintro g₁ vals₁ N₁ h₁ ⟨hx₁, ys, o, o', rfl, rfl, hP⟩ S₁
    exact ⟨ys, g₁, _, S₁, hx₁, hP⟩
end

open PySem PySem.W PySem.Calls PyProof.Rows
set_option Elab.async false
section
variable {prog : Program} {w : World} {A : Around} {K : Frag} {g h : Heap} {env : Env} {vars : List Str} {vals : List (Option Value)} {caps : List (Str × Value)} {N : List (Addr × Cn)}
/-- a comprehension of one clause without tests whose turns may make objects -/
theorem CompGoal.build {I : Addr} {src : Src} {elt iter : Expr} {x : Str} {px : Pos} {scope : Scope} {pos : Pos} {Q : Value → Heap → Prop}
    (S : St K g env vars vals caps ((I, src.cn 0) :: N) h) (hA : A.handled = none) (hb : src.base h) (caps' : List (Str × Value)) (P : Nat → List Value → Heap → Prop)
    (hok : compOk scope [x] (caps'.map (·.1)) = true) (hcaps : CapsOk env h caps')
    (start : ∀ g', Ext g g' → P 0 [] g') (hsz : ∀ i ys g, P i ys g → ys.length ≤ sizeLine)
    (elem : ∀ (cenv : Env) g' D ys i v h', cenv.scope = relabel scope env → Heap.ExtBut I h g' → Ext g g' → (∀ q ∈ N, IsAt g' q.1 q.2) → i < src.len → src.item i v → P i ys g' →
      St K g' cenv [x] [some v] caps' [(I, src.cn (i + 1)), (D, .list ys)] h' →
      Wp (model prog w) A (eval elt cenv) (fun y h₂ => ∃ g₂, Ext g' g₂ ∧ P (i + 1) (ys ++ [y]) g₂ ∧ St K g₂ cenv [x] [some v] caps' [(I, src.cn (i + 1)), (D, .list ys)] h₂) h')
    (H : ∀ ys g'' D h₅, P src.len ys g'' → Ext g g'' → (∀ q ∈ N, IsAt g'' q.1 q.2) → Ext g'' h₅ → g''.get? D = none → h.get? D = none → St K g env vars vals caps ((D, .list ys) :: N) h₅ → Q (.ref D) h₅) :
    CompGoal prog w A K env elt [⟨.Name x px, iter, [], 0⟩] scope pos (.ref I) Q h := by
  have gI := (S.news (I, src.cn 0) (.head _)).2.2.1
  have hggOf : ∀ g', Heap.ExtBut I h g' → Ext g g' := fun g' hx b o e => hx b o (fun q => by rw [q, gI] at e; cases e) (S.keep b o e)
  have hNOf : ∀ g', Heap.ExtBut I h g' → ∀ q ∈ N, IsAt g' q.1 q.2 := fun g' hx q hq => by
    have nd := List.nodup_cons.mp S.nodN
    exact (S.news q (.tail _ hq)).1.but hx fun z => nd.1 (by have := List.mem_map_of_mem (f := (·.1)) hq; rwa [z] at this)
  refine ⟨I, src, g, vars, vals, caps, N, rfl, S, [x], caps', fun ys g'' => P src.len ys g'', hok, hcaps, fun cenv g' D h' hsc hx hD Sc => ?_, fun ys g'' D h₅ hP hx hg hgD hD Sf => H ys g'' D h₅ hP (hggOf g'' hx) (hNOf g'' hx) hg hgD hD Sf⟩
  have hgg : Ext g g' := hggOf g' hx
  have hNN := hNOf g' hx
  have hbg : src.base g' := Src.base_but hb (S.at (.head _)) hx
  refine Cp_compLoop (turn1 ..) src (fun i g₁ vals₁ N₁ => Ext g' g₁ ∧ ∃ ys o, vals₁ = [o] ∧ N₁ = [(D, .list ys)] ∧ P i ys g₁) hA Sc ⟨Ext.refl _, [], none, rfl, rfl, start g' hgg⟩ ?_ ?_ ?_
  · rintro i g₁ vals₁ N₁ h₁ ⟨hx₁, _⟩ S₁
    exact Src.base_ext (Src.base_ext hbg hx₁) S₁.keep
  · rintro i v g₁ vals₁ N₁ h₁ hi hv ⟨hx₁, ys, o, rfl, rfl, hP⟩ S₁
    refine Wp_letOwned_Name (Wp_assign_Name (Wp_store S₁ .head fun h₂ S₂ => Wp_tests_nil ?_))
    refine Wp_bind (Wp_emit ((elem cenv g₁ D ys i v h₂ hsc (fun b o hb e => hx₁ b o (hx b o hb e)) (hgg.trans hx₁) (fun q hq => (hNN q hq).ext hx₁) hi hv hP S₂).mono fun y h₄ H₄ => ?_))
    obtain ⟨g₄, hx₄, hP₄, S₄⟩ := H₄
    refine Wp_append S₄ (D := D) (ys := ys) (.tail _ (.head _)) (.tail .head) (hsz _ _ _ hP) fun h₅ S₅ => Wp_pure ⟨rfl, g₄, _, _, ⟨hx₁.trans hx₄, _, _, rfl, rfl, hP₄⟩, S₅⟩
  · rintro g₁ vals₁ N₁ h₁ ⟨hx₁, ys, o, rfl, rfl, hP⟩ S₁
    exact ⟨ys, g₁, _, S₁, hx₁, hP⟩
end

theorem St.rebaseNew {K : Frag} {g h h₀ : Heap} {env : Env} {vars : List Str} {vals vals₀ : List (Option Value)} {caps : List (Str × Value)} {N : List (Addr × Cn)} {I D : Addr} {c d : Cn}
    (S₀ : St K g env vars vals₀ caps ((I, c) :: N) h₀) (S : St K g env vars vals caps ((D, d) :: N) h) :
    ∃ g', Ext g g' ∧ St K g' env vars vals caps ((D, d) :: N) h ∧ ∀ a o, h₀.get? a = none → a ≠ D → h.get? a = some o → g'.get? a = some o := by
  obtain ⟨g', x, y, z⟩ := S.rebase
  refine ⟨g', x, y, fun a o hn hD ho => z a o ho fun q => ?_⟩
  have q' : a ∈ St.owned env vars N := by
    rcases List.mem_append.mp q with q | q
    · exact List.mem_append_left _ q
    · rcases List.mem_cons.mp q with q | q
      · exact absurd q hD
      · exact List.mem_append_right _ q
  obtain ⟨o', ho'⟩ := S₀.tail.owned_some a q'
  rw [hn] at ho'; cases ho'

theorem map_range_getD {α : Type} (f : Int → α) (l : List Int) : (List.range l.length).map (fun j => f (l.getD j 0)) = l.map f := by
  refine List.ext_getElem (by simp) fun i h1 h2 => ?_
  simp at h1
  simp [List.getD_eq_getElem?_getD, h1]

open PySem PySem.W PySem.Calls PyProof.Rows
set_option Elab.async false
set_option maxRecDepth 100000

/- sort: what comes out is a permutation, whatever the size -/
structure SI (κ : SortKind) (a₀ : Array Keyed) (p : Array (Nat × Nat × Nat)) (st : SortSt) : Prop where
  kind : kindOf st = κ
  failed : failedOf st = none
  perm : (arrOf st).Perm a₀
  pend : pendingOf st = p

section
variable {prog : Program} {w : World} {A : Around} {E : Value → Shared → Prop} {s : Shared} {κ : SortKind} {a₀ : Array Keyed} {p : Array (Nat × Nat × Nat)}

def Cmp (prog : Program) (w : World) (A : Around) (s : Shared) (κ : SortKind) (a₀ : Array Keyed) : Prop :=
  ∀ x y : Keyed, x ∈ a₀ → y ∈ a₀ → ∀ E, wpAny (model prog w) A (keyLt' κ x.1 y.1) (fun _ s' => s' = s) E s

theorem SI.size {st : SortSt} (h : SI κ a₀ p st) : (arrOf st).size = a₀.size := h.perm.size_eq
theorem SI.at {st : SortSt} (h : SI κ a₀ p st) {i : Nat} (hi : i < a₀.size) : ∃ x : Keyed, (arrOf st)[i]? = some x ∧ x ∈ a₀ := by
  have hi' : i < (arrOf st).size := by rw [h.size]; exact hi
  exact ⟨(arrOf st)[i], getElem?_pos (arrOf st) i hi', (h.perm.mem_iff).mp (Array.getElem_mem hi')⟩
theorem SI.setArr {st : SortSt} (h : SI κ a₀ p st) {xs : Array Keyed} (hp : xs.Perm (arrOf st)) : SI κ a₀ p (setArr st xs) := ⟨h.kind, h.failed, hp.trans h.perm, h.pend⟩

theorem wpS_lt (C : Cmp prog w A s κ a₀) {st : SortSt} {x y : Keyed} {Q : Option Bool → SortSt → Prop} (hk : kindOf st = κ) (hx : x ∈ a₀) (hy : y ∈ a₀) (h : ∀ b, Q (some b) st) :
    wpS (model prog w) A E s (lt' x y) Q st := by
  rw [lt'_eq]
  refine wpS_bind (wpS_get ?_)
  rw [hk]
  refine wpS_bind (wpS_lift (wpAny_attempt ?_))
  refine wpAny_mono (C x y hx hy _) (fun b s' e => ⟨e, ?_⟩) fun _ _ x => x
  exact wpS_pure (h b)
theorem wpS_elem {st : SortSt} {xs : Array Keyed} {i : Nat} {Q : Keyed → SortSt → Prop} {x : Keyed} (e : xs[i]? = some x) (h : Q x st) : wpS (model prog w) A E s (elem' xs i) Q st := by
  rw [elem'_eq, e]; exact wpS_pure h
theorem wpS_ltAtP (C : Cmp prog w A s κ a₀) {st : SortSt} {i j : Nat} {Q : Option Bool → SortSt → Prop} (hS : SI κ a₀ p st) (hi : i < a₀.size) (hj : j < a₀.size) (h : ∀ b, Q (some b) st) :
    wpS (model prog w) A E s (ltAt' i j) Q st := by
  obtain ⟨x, ex, hx⟩ := hS.at hi
  obtain ⟨y, ey, hy⟩ := hS.at hj
  rw [ltAt'_eq]
  refine wpS_bind (wpS_get ?_)
  exact wpS_bind (wpS_elem ex (wpS_bind (wpS_elem ey (wpS_lt C hS.kind hx hy h))))

theorem wpS_rev {st : SortSt} {i j : Nat} {Q : Unit → SortSt → Prop} (hS : SI κ a₀ p st) (h : ∀ st', SI κ a₀ p st' → Q () st') : wpS (model prog w) A E s (reverseSlice' i j) Q st := by
  rw [reverseSlice'_eq]
  exact wpS_modify (h _ (hS.setArr (mirror_perm _ _ _ _)))

theorem wpS_ascP (C : Cmp prog w A s κ a₀) {st : SortSt} {lo a nrem : Nat} {Q : Option (Option Nat) × Nat → SortSt → Prop} (hS : SI κ a₀ p st) (hn : lo + nrem ≤ a₀.size) (ha : 1 ≤ a) (han : a ≤ nrem)
    (h : ∀ n st', SI κ a₀ p st' → 1 ≤ n → n ≤ nrem → Q (none, n) st') :
    wpS (model prog w) A E s (forIn [a:nrem] ((none, a) : Option (Option Nat) × Nat) fun _ __s => do
      let __x ← ltAt' (lo + __s.snd) (lo + __s.snd - 1)
      match __x with
      | some smaller => if smaller = true then pure (ForInStep.done (none, __s.snd)) else pure (ForInStep.yield (none, __s.snd + 1))
      | _ => pure (ForInStep.done (some none, __s.snd))) Q st := by
  refine wpS_forRange (I := fun x c st' => SI κ a₀ p st' ∧ c = (none, x)) ?_ ?_ ⟨hS, rfl⟩
  · rintro x c st' hx1 hx2 ⟨hS, rfl⟩
    dsimp only
    refine wpS_bind (wpS_ltAtP C hS (by omega) (by omega) fun b => ?_)
    cases b with
    | true => exact wpS_pure (h _ _ hS (by omega) (by omega))
    | false => exact wpS_pure ⟨hS, rfl⟩
  · rintro c st' ⟨hS, rfl⟩
    exact h _ _ hS (by omega) (by omega)

theorem wpS_countRunP (C : Cmp prog w A s κ a₀) {st : SortSt} {lo nrem : Nat} {Q : Option Nat → SortSt → Prop} (hS : SI κ a₀ p st) (hn : lo + nrem ≤ a₀.size) (h1 : 1 ≤ nrem)
    (h : ∀ n st', SI κ a₀ p st' → 1 ≤ n → n ≤ nrem → Q (some n) st') : wpS (model prog w) A E s (countRun' lo nrem) Q st := by
  rw [countRun'_eq]
  dsimp only
  refine wpS_bind (wpS_ascP C hS hn (Nat.le_refl _) h1 fun n st' hS hn1 hn2 => ?_)
  dsimp only
  split
  · exact wpS_pure (h _ _ hS hn1 hn2)
  · rename_i hne
    have hlt : n + 1 ≤ nrem := by
      have : n ≠ nrem := by simpa using hne
      omega
    split
    · refine wpS_bind (wpS_ltAtP C hS (by omega) (by omega) fun b => ?_)
      cases b with
      | true => exact wpS_pure (h _ _ hS hn1 hn2)
      | false =>
        dsimp only
        rw [if_neg (by decide)]
        refine wpS_bind (wpS_rev hS fun st' hS => ?_)
        refine wpS_bind (wpS_lift (wpAny_rule ⟨rfl, ?_⟩))
        refine wpS_bind (wpS_mono (wpS_forRange (I := fun x c st' => SI κ a₀ p st' ∧ ∃ q, c = (none, x, q)) (Q := fun c st' => SI κ a₀ p st' ∧ ∃ m q, c = (none, m, q) ∧ 1 ≤ m ∧ m ≤ nrem) ?_ ?_ ⟨hS, 0, rfl⟩) ?_)
        · rintro x c st' hx1 hx2 ⟨hS, q, rfl⟩
          dsimp only
          refine wpS_bind (wpS_ltAtP C hS (by omega) (by omega) fun b => ?_)
          cases b with
          | true =>
            dsimp only
            rw [if_pos rfl]
            split
            · exact wpS_bind (wpS_rev hS fun st' hS => wpS_pure ⟨hS, 0, rfl⟩)
            · exact wpS_pure ⟨hS, 0, rfl⟩
          | false =>
            dsimp only
            rw [if_neg (by decide)]
            refine wpS_bind (wpS_ltAtP C hS (by omega) (by omega) fun b => ?_)
            cases b with
            | true => exact wpS_pure ⟨hS, _, _, rfl, by omega, by omega⟩
            | false => exact wpS_pure ⟨hS, _, rfl⟩
        · rintro c st' ⟨hS, q, rfl⟩
          exact ⟨hS, _, _, rfl, by omega, by omega⟩
        rintro c st' ⟨hS, m, q, rfl, hm1, hm2⟩
        dsimp only
        split
        · refine wpS_bind (wpS_rev hS fun st' hS => wpS_bind (wpS_rev hS fun st' hS => ?_))
          refine wpS_bind (wpS_ascP C hS hn hm1 hm2 fun n st' hS hn1 hn2 => ?_)
          exact wpS_pure (h _ _ hS hn1 hn2)
        · refine wpS_bind (wpS_rev hS fun st' hS => ?_)
          refine wpS_bind (wpS_ascP C hS hn hm1 hm2 fun n st' hS hn1 hn2 => ?_)
          exact wpS_pure (h _ _ hS hn1 hn2)
    · skip
      refine wpS_bind (wpS_lift (wpAny_rule ⟨rfl, ?_⟩))
      refine wpS_bind (wpS_mono (wpS_forRange (I := fun x c st' => SI κ a₀ p st' ∧ ∃ q, c = (none, x, q)) (Q := fun c st' => SI κ a₀ p st' ∧ ∃ m q, c = (none, m, q) ∧ 1 ≤ m ∧ m ≤ nrem) ?_ ?_ ⟨hS, 0, rfl⟩) ?_)
      · rintro x c st' hx1 hx2 ⟨hS, q, rfl⟩
        dsimp only
        refine wpS_bind (wpS_ltAtP C hS (by omega) (by omega) fun b => ?_)
        cases b with
        | true =>
          dsimp only
          rw [if_pos rfl]
          split
          · exact wpS_bind (wpS_rev hS fun st' hS => wpS_pure ⟨hS, 0, rfl⟩)
          · exact wpS_pure ⟨hS, 0, rfl⟩
        | false =>
          dsimp only
          rw [if_neg (by decide)]
          refine wpS_bind (wpS_ltAtP C hS (by omega) (by omega) fun b => ?_)
          cases b with
          | true => exact wpS_pure ⟨hS, _, _, rfl, by omega, by omega⟩
          | false => exact wpS_pure ⟨hS, _, rfl⟩
      · rintro c st' ⟨hS, q, rfl⟩
        exact ⟨hS, _, _, rfl, by omega, by omega⟩
      rintro c st' ⟨hS, m, q, rfl, hm1, hm2⟩
      dsimp only
      split
      · refine wpS_bind (wpS_rev hS fun st' hS => wpS_bind (wpS_rev hS fun st' hS => ?_))
        refine wpS_bind (wpS_ascP C hS hn hm1 hm2 fun n st' hS hn1 hn2 => ?_)
        exact wpS_pure (h _ _ hS hn1 hn2)
      · refine wpS_bind (wpS_rev hS fun st' hS => ?_)
        refine wpS_bind (wpS_ascP C hS hn hm1 hm2 fun n st' hS hn1 hn2 => ?_)
        exact wpS_pure (h _ _ hS hn1 hn2)
end

open PySem PySem.W PySem.Calls PyProof.Rows
set_option Elab.async false
set_option maxRecDepth 100000
section
variable {prog : Program} {w : World} {A : Around} {E : Value → Shared → Prop} {s : Shared} {κ : SortKind} {a₀ : Array Keyed} {p : Array (Nat × Nat × Nat)}

theorem wpS_binarySortP (C : Cmp prog w A s κ a₀) {st : SortSt} {lo n ok : Nat} {Q : Bool → SortSt → Prop} (hS : SI κ a₀ p st) (hn : lo + n ≤ a₀.size)
    (h : ∀ st', SI κ a₀ p st' → Q true st') : wpS (model prog w) A E s (binarySort' lo n ok) Q st := by
  rw [binarySort'_eq]
  refine wpS_bind (wpS_mono (wpS_forRange (I := fun k c st' => c = (none, ()) ∧ SI κ a₀ p st') (Q := fun c st' => c = (none, ()) ∧ SI κ a₀ p st') ?_ (fun _ _ h => h) ⟨rfl, hS⟩) ?_)
  · rintro k c st' _ hk ⟨rfl, hS⟩
    refine wpS_bind (wpS_mono (wpS_forRange (I := fun x c st' => SI κ a₀ p st' ∧ ∃ l r, c = (none, l, r) ∧ r ≤ k) (Q := fun c st' => SI κ a₀ p st' ∧ ∃ l r, c = (none, l, r)) ?_ ?_ ⟨hS, _, _, rfl, Nat.le_refl _⟩) ?_)
    · rintro x c st' _ _ ⟨hS, l, r, rfl, hr⟩
      dsimp only
      split
      · exact wpS_pure ⟨hS, _, _, rfl⟩
      · refine wpS_bind (wpS_ltAtP C hS (by omega) (by omega) fun b => ?_)
        cases b with
        | true => exact wpS_pure ⟨hS, _, _, rfl, by omega⟩
        | false => exact wpS_pure ⟨hS, _, _, rfl, hr⟩
    · rintro c st' ⟨hS, l, r, rfl, _⟩
      exact ⟨hS, _, _, rfl⟩
    rintro c st' ⟨hS, l, r, rfl⟩
    dsimp only
    rw [moveDown'_eq]
    exact wpS_bind (wpS_modify (wpS_pure ⟨rfl, hS.setArr (bubble_perm _ _ _)⟩))
  rintro c st' ⟨rfl, hS⟩
  exact wpS_pure (h _ hS)

def gallop' : Bool → Keyed → Array Keyed → Nat → Nat → Nat → StateT SortSt Sem (Option Nat) := sortPriv% PySem.Builtin.gallop
theorem wpS_beyondP (C : Cmp prog w A s κ a₀) {st : SortSt} {left : Bool} {key : Keyed} {arr : Array Keyed} {base i : Nat} {Q : Option Bool → SortSt → Prop} (hk : kindOf st = κ) (hkey : key ∈ a₀)
    (hi : base + i < arr.size) (hm : ∀ x ∈ arr, x ∈ a₀) (h : ∀ b, Q (some b) st) :
    wpS (model prog w) A E s (do
      let x ← elem' arr (base + i)
      if left = true then lt' x key else do
        let r ← lt' key x
        pure (Option.map (fun b => !b) r)) Q st := by
  have hx : arr[base + i] ∈ a₀ := hm _ (Array.getElem_mem hi)
  refine wpS_bind (wpS_elem (getElem?_pos arr (base + i) hi) ?_)
  cases left with
  | true => exact wpS_lt C hk hx hkey h
  | false => exact wpS_bind (wpS_lt C hk hkey hx fun b => wpS_pure (h _))

theorem wpS_gallopP (C : Cmp prog w A s κ a₀) {st : SortSt} {left : Bool} {key : Keyed} {arr : Array Keyed} {base n hint : Nat} {Q : Option Nat → SortSt → Prop} (hk : kindOf st = κ) (hkey : key ∈ a₀)
    (hn : base + n ≤ arr.size) (hh : hint < n) (hm : ∀ x ∈ arr, x ∈ a₀) (h : ∀ k, k ≤ n → Q (some k) st) :
    wpS (model prog w) A E s (gallop' left key arr base n hint) Q st := by
  refine wpS_bind (wpS_beyondP C hk hkey (by omega) hm fun b => ?_)
  cases b with
  | true =>
    dsimp only
    rw [if_pos rfl]
    refine wpS_bind (wpS_mono (wpS_forRange (I := fun x c st' => st' = st ∧ ∃ l o, c = (none, l, o)) (Q := fun c st' => st' = st ∧ ∃ l o, c = (none, l, o)) ?_ (fun _ _ h => h) ⟨rfl, _, _, rfl⟩) ?_)
    · rintro x c st' _ _ ⟨rfl, l, o, rfl⟩
      dsimp only
      split
      · exact wpS_pure ⟨rfl, _, _, rfl⟩
      · refine wpS_bind (wpS_beyondP C hk hkey (by omega) hm fun b => ?_)
        cases b with
        | true => exact wpS_pure ⟨rfl, _, _, rfl⟩
        | false => exact wpS_pure ⟨rfl, _, _, rfl⟩
    rintro c st' ⟨rfl, l, o, rfl⟩
    dsimp only
    refine wpS_bind (wpS_mono (wpS_forRange (I := fun x c st'' => st'' = st' ∧ ∃ l r, c = (none, l, r) ∧ r ≤ n) (Q := fun c st'' => st'' = st' ∧ ∃ l r, c = (none, l, r) ∧ r ≤ n) ?_ (fun _ _ h => h) ⟨rfl, _, _, rfl, by omega⟩) ?_)
    · rintro x c st' _ _ ⟨rfl, l, r, rfl, hr⟩
      dsimp only
      split
      · exact wpS_pure ⟨rfl, _, _, rfl, hr⟩
      · refine wpS_bind (wpS_beyondP C hk hkey (by omega) hm fun b => ?_)
        cases b with
        | true => exact wpS_pure ⟨rfl, _, _, rfl, hr⟩
        | false => exact wpS_pure ⟨rfl, _, _, rfl, by omega⟩
    rintro c st' ⟨rfl, l, r, rfl, hr⟩
    exact wpS_pure (h _ hr)
  | false =>
    dsimp only
    rw [if_neg (by decide)]
    refine wpS_bind (wpS_mono (wpS_forRange (I := fun x c st' => st' = st ∧ ∃ l o, c = (none, l, o)) (Q := fun c st' => st' = st ∧ ∃ l o, c = (none, l, o)) ?_ (fun _ _ h => h) ⟨rfl, _, _, rfl⟩) ?_)
    · rintro x c st' _ _ ⟨rfl, l, o, rfl⟩
      dsimp only
      split
      · exact wpS_pure ⟨rfl, _, _, rfl⟩
      · refine wpS_bind (wpS_beyondP C hk hkey (by omega) hm fun b => ?_)
        cases b with
        | true => exact wpS_pure ⟨rfl, _, _, rfl⟩
        | false => exact wpS_pure ⟨rfl, _, _, rfl⟩
    rintro c st' ⟨rfl, l, o, rfl⟩
    dsimp only
    refine wpS_bind (wpS_mono (wpS_forRange (I := fun x c st'' => st'' = st' ∧ ∃ l r, c = (none, l, r) ∧ r ≤ n) (Q := fun c st'' => st'' = st' ∧ ∃ l r, c = (none, l, r) ∧ r ≤ n) ?_ (fun _ _ h => h) ⟨rfl, _, _, rfl, by omega⟩) ?_)
    · rintro x c st' _ _ ⟨rfl, l, r, rfl, hr⟩
      dsimp only
      split
      · exact wpS_pure ⟨rfl, _, _, rfl, hr⟩
      · refine wpS_bind (wpS_beyondP C hk hkey (by omega) hm fun b => ?_)
        cases b with
        | true => exact wpS_pure ⟨rfl, _, _, rfl, hr⟩
        | false => exact wpS_pure ⟨rfl, _, _, rfl, by omega⟩
    rintro c st' ⟨rfl, l, r, rfl, hr⟩
    exact wpS_pure (h _ hr)
end

open PySem PySem.W PySem.Calls PyProof.Rows
set_option Elab.async false
set_option maxRecDepth 100000
section
variable {prog : Program} {w : World} {A : Around} {E : Value → Shared → Prop} {s : Shared} {κ : SortKind} {a₀ : Array Keyed} {p : Array (Nat × Nat × Nat)}

def setMinGallop' : Nat → StateT SortSt Sem Unit := sortPriv% PySem.Builtin.setMinGallop
def mergeLo' : Array Keyed → Array Keyed → StateT SortSt Sem (Array Keyed) := sortPriv% PySem.Builtin.mergeLo
abbrev GS := Option (Array Keyed) × Array Keyed × Nat × Nat × Nat × Nat × Nat
abbrev CS := Option (Array Keyed) × Array Keyed × Nat × Nat × Nat × Nat
abbrev OS := Option (Array Keyed) × Array Keyed × Nat × Nat × Nat
def loDone (x y out : Array Keyed) (ia ib : Nat) : Array Keyed := out ++ x.extract ia x.size ++ y.extract ib y.size
def loLast (x y out : Array Keyed) (ia ib : Nat) : Array Keyed := out ++ y.extract ib y.size ++ x.extract ia x.size
def loCmp (x y : Array Keyed) (mg : Nat) (c : CS) : StateT SortSt Sem (ForInStep CS) := do
  let v ← elem' y c.2.2.2.1
  let u ← elem' x c.2.2.1
  let r ← lt' v u
  match r with
  | some bWins =>
    if bWins = true then do
      let v ← elem' y c.2.2.2.1
      if (c.2.2.2.1 + 1 == y.size) = true then pure (ForInStep.done (some (loDone x y (c.2.1.push v) c.2.2.1 (c.2.2.2.1 + 1)), c.2.1.push v, c.2.2.1, c.2.2.2.1 + 1, 0, c.2.2.2.2.2 + 1))
      else if c.2.2.2.2.2 + 1 ≥ mg then pure (ForInStep.done (none, c.2.1.push v, c.2.2.1, c.2.2.2.1 + 1, 0, c.2.2.2.2.2 + 1))
      else pure (ForInStep.yield (none, c.2.1.push v, c.2.2.1, c.2.2.2.1 + 1, 0, c.2.2.2.2.2 + 1))
    else do
      let u ← elem' x c.2.2.1
      if (c.2.2.1 + 1 + 1 == x.size) = true then pure (ForInStep.done (some (loLast x y (c.2.1.push u) (c.2.2.1 + 1) c.2.2.2.1), c.2.1.push u, c.2.2.1 + 1, c.2.2.2.1, c.2.2.2.2.1 + 1, 0))
      else if c.2.2.2.2.1 + 1 ≥ mg then pure (ForInStep.done (none, c.2.1.push u, c.2.2.1 + 1, c.2.2.2.1, c.2.2.2.2.1 + 1, 0))
      else pure (ForInStep.yield (none, c.2.1.push u, c.2.2.1 + 1, c.2.2.2.1, c.2.2.2.2.1 + 1, 0))
  | x_1 => pure (ForInStep.done (some (loDone x y c.2.1 c.2.2.1 c.2.2.2.1), c.2.1, c.2.2.1, c.2.2.2.1, c.2.2.2.2.1, c.2.2.2.2.2))
def loG3 (x y out : Array Keyed) (ia ib mg ac bc : Nat) : StateT SortSt Sem (ForInStep GS) := do
  let u ← elem' x ia
  if (ia + 1 + 1 == x.size) = true then pure (ForInStep.done (some (loLast x y (out.push u) (ia + 1) ib), out.push u, ia + 1, ib, mg, ac, bc))
  else if (decide (ac < 7) && decide (bc < 7)) = true then pure (ForInStep.done (none, out.push u, ia + 1, ib, mg, ac, bc))
  else pure (ForInStep.yield (none, out.push u, ia + 1, ib, mg, ac, bc))
def loG2 (x y out : Array Keyed) (ia ib mg ac bc : Nat) : StateT SortSt Sem (ForInStep GS) := do
  let v ← elem' y ib
  if (ib + 1 == y.size) = true then pure (ForInStep.done (some (loDone x y (out.push v) ia (ib + 1)), out.push v, ia, ib + 1, mg, ac, bc))
  else do
    let u ← elem' x ia
    let r ← gallop' true u y (ib + 1) (y.size - (ib + 1)) 0
    match r with
    | some k =>
      if k > 0 then
        if (ib + 1 + k == y.size) = true then pure (ForInStep.done (some (loDone x y (out.push v ++ y.extract (ib + 1) (ib + 1 + k)) ia (ib + 1 + k)), out.push v ++ y.extract (ib + 1) (ib + 1 + k), ia, ib + 1 + k, mg, ac, k))
        else loG3 x y (out.push v ++ y.extract (ib + 1) (ib + 1 + k)) ia (ib + 1 + k) mg ac k
      else loG3 x y (out.push v) ia (ib + 1) mg ac k
    | x_1 => pure (ForInStep.done (some (loDone x y (out.push v) ia (ib + 1)), out.push v, ia, ib + 1, mg, ac, bc))
def loG1 (x y out : Array Keyed) (ia ib mg ac bc : Nat) : StateT SortSt Sem (ForInStep GS) := do
  setMinGallop' mg
  let v ← elem' y ib
  let r ← gallop' false v x ia (x.size - ia) 0
  match r with
  | some k =>
    if k > 0 then
      if (ia + k + 1 == x.size) = true then pure (ForInStep.done (some (loLast x y (out ++ x.extract ia (ia + k)) (ia + k) ib), out ++ x.extract ia (ia + k), ia + k, ib, mg, k, bc))
      else if (ia + k == x.size) = true then pure (ForInStep.done (some (loDone x y (out ++ x.extract ia (ia + k)) (ia + k) ib), out ++ x.extract ia (ia + k), ia + k, ib, mg, k, bc))
      else loG2 x y (out ++ x.extract ia (ia + k)) (ia + k) ib mg k bc
    else loG2 x y out ia ib mg k bc
  | x_1 => pure (ForInStep.done (some (loDone x y out ia ib), out, ia, ib, mg, ac, bc))
def loG (x y : Array Keyed) (c : GS) : StateT SortSt Sem (ForInStep GS) :=
  if c.2.2.2.2.1 > 1 then loG1 x y c.2.1 c.2.2.1 c.2.2.2.1 (c.2.2.2.2.1 - 1) c.2.2.2.2.2.1 c.2.2.2.2.2.2
  else loG1 x y c.2.1 c.2.2.1 c.2.2.2.1 c.2.2.2.2.1 c.2.2.2.2.2.1 c.2.2.2.2.2.2
def loTurn (x y : Array Keyed) (c : OS) : StateT SortSt Sem (ForInStep OS) := do
  let r ← forIn [0:x.size + y.size] ((none, c.2.1, c.2.2.1, c.2.2.2.1, 0, 0) : CS) fun _ d => loCmp x y c.2.2.2.2 d
  match r.1 with
  | some res => pure (ForInStep.done (some res, r.2.1, r.2.2.1, r.2.2.2.1, c.2.2.2.2))
  | none => do
    liftM (rule "list.sort.gallop")
    let q ← forIn [0:x.size + y.size] ((none, r.2.1, r.2.2.1, r.2.2.2.1, c.2.2.2.2 + 1, r.2.2.2.2.1, r.2.2.2.2.2) : GS) fun _ d => loG x y d
    match q.1 with
    | some res => pure (ForInStep.done (some res, q.2.1, q.2.2.1, q.2.2.2.1, q.2.2.2.2.1))
    | none => do
      setMinGallop' (q.2.2.2.2.1 + 1)
      pure (ForInStep.yield (none, q.2.1, q.2.2.1, q.2.2.2.1, q.2.2.2.2.1 + 1))
theorem mergeLo'_eq2 (x y : Array Keyed) : mergeLo' x y = (do
  liftM (rule "list.sort.merge-lo")
  let v ← elem' y 0
  if (1 == y.size) = true then pure (loDone x y #[v] 0 1)
  else if (0 + 1 == x.size) = true then pure (loLast x y #[v] 0 1)
  else do
    let st ← get
    let r ← forIn [0:x.size + y.size] ((none, #[v], 0, 1, gallopOf st) : OS) fun _ d => loTurn x y d
    match r.1 with
    | some res => pure res
    | none => liftM (unsupported (α := Array Keyed) "internal:list.sort.merge-bound")) := by kernel_rfl
end

open PySem PySem.W PySem.Calls PyProof.Rows
set_option Elab.async false
set_option maxRecDepth 100000
section
variable {prog : Program} {w : World} {A : Around} {E : Value → Shared → Prop} {s : Shared} {κ : SortKind} {a₀ : Array Keyed} {p : Array (Nat × Nat × Nat)}

def Mg (x y out : Array Keyed) (ia ib : Nat) : Prop := (out.toList ++ (x.toList.drop ia ++ y.toList.drop ib)).Perm (x.toList ++ y.toList)
theorem extract_toList (x : Array Keyed) (i j : Nat) : (x.extract i j).toList = (x.toList.drop i).take (j - i) := by
  simp [List.extract_eq_take_drop]
theorem Mg.pushA {x y out : Array Keyed} {ia ib : Nat} (h : Mg x y out ia ib) {u : Keyed} (e : x[ia]? = some u) : Mg x y (out.push u) (ia + 1) ib := by
  obtain ⟨hi, rfl⟩ := Array.getElem?_eq_some_iff.mp e
  unfold Mg at h ⊢
  rw [List.drop_eq_getElem_cons (by simpa using hi)] at h
  simpa using h
theorem Mg.pushB {x y out : Array Keyed} {ia ib : Nat} (h : Mg x y out ia ib) {u : Keyed} (e : y[ib]? = some u) : Mg x y (out.push u) ia (ib + 1) := by
  obtain ⟨hi, rfl⟩ := Array.getElem?_eq_some_iff.mp e
  unfold Mg at h ⊢
  rw [List.drop_eq_getElem_cons (i := ib) (by simpa using hi)] at h
  refine List.Perm.trans ?_ h
  simp only [Array.toList_push, List.append_assoc, List.singleton_append]
  refine List.Perm.append_left _ ?_
  exact (List.perm_middle (l₁ := x.toList.drop ia)).symm
theorem Mg.appA {x y out : Array Keyed} {ia ib k : Nat} (h : Mg x y out ia ib) : Mg x y (out ++ x.extract ia (ia + k)) (ia + k) ib := by
  unfold Mg at h ⊢
  refine List.Perm.trans (List.Perm.of_eq ?_) h
  rw [Array.toList_append, extract_toList, List.append_assoc, ← List.append_assoc (List.take _ _), show ia + k - ia = k by omega]
  rw [← List.drop_drop, List.take_append_drop]
theorem Mg.appB {x y out : Array Keyed} {ia ib k : Nat} (h : Mg x y out ia ib) : Mg x y (out ++ y.extract ib (ib + k)) ia (ib + k) := by
  unfold Mg at h ⊢
  refine List.Perm.trans ?_ h
  rw [Array.toList_append, extract_toList, List.append_assoc, show ib + k - ib = k by omega]
  refine List.Perm.append_left _ ?_
  conv => rhs; rw [← List.take_append_drop k (y.toList.drop ib), List.drop_drop]
  rw [← List.append_assoc, ← List.append_assoc]
  exact List.Perm.append_right _ List.perm_append_comm
theorem Mg.done {x y out : Array Keyed} {ia ib : Nat} (h : Mg x y out ia ib) : (loDone x y out ia ib).Perm (x ++ y) := by
  unfold Mg at h
  unfold loDone
  rw [Array.perm_iff_toList_perm]
  simp only [Array.toList_append, extract_toList]
  rw [List.take_of_length_le (by simp), List.take_of_length_le (by simp), List.append_assoc]
  exact h
theorem Mg.last {x y out : Array Keyed} {ia ib : Nat} (h : Mg x y out ia ib) : (loLast x y out ia ib).Perm (x ++ y) := by
  unfold Mg at h
  unfold loLast
  rw [Array.perm_iff_toList_perm]
  simp only [Array.toList_append, extract_toList]
  rw [List.take_of_length_le (by simp), List.take_of_length_le (by simp), List.append_assoc]
  exact List.Perm.trans (List.Perm.append_left _ List.perm_append_comm) h

def SameG (st st' : SortSt) : Prop := kindOf st' = kindOf st ∧ arrOf st' = arrOf st ∧ pendingOf st' = pendingOf st ∧ failedOf st' = failedOf st
theorem SameG.rfl' (st : SortSt) : SameG st st := ⟨rfl, rfl, rfl, rfl⟩
theorem SameG.trans {a b c : SortSt} (h : SameG a b) (h' : SameG b c) : SameG a c := ⟨h'.1.trans h.1, h'.2.1.trans h.2.1, h'.2.2.1.trans h.2.2.1, h'.2.2.2.trans h.2.2.2⟩
theorem wpS_setMin {g : Nat} {st : SortSt} {Q : Unit → SortSt → Prop} (h : ∀ st', SameG st st' → Q () st') : wpS (model prog w) A E s (setMinGallop' g) Q st := by
  exact wpS_modify (h _ ⟨rfl, rfl, rfl, rfl⟩)

/-- on the way: something is left of both, two of the first -/
structure Way (x y : Array Keyed) (b : Nat) (out : Array Keyed) (ia ib : Nat) : Prop where
  mg : Mg x y out ia ib
  ha : ia + 1 < x.size
  hb : ib < y.size
  far : b ≤ ia + ib

structure Two (κ : SortKind) (a₀ x y : Array Keyed) : Prop where
  xm : ∀ z ∈ x, z ∈ a₀
  ym : ∀ z ∈ y, z ∈ a₀
theorem mem_of_get {x a₀ : Array Keyed} (h : ∀ z ∈ x, z ∈ a₀) {i : Nat} (hi : i < x.size) : ∃ u, x[i]? = some u ∧ u ∈ a₀ := ⟨x[i], getElem?_pos x i hi, h _ (Array.getElem_mem hi)⟩

/-- what a turn of the comparing loop leaves -/
def CmpPost (x y : Array Keyed) (b : Nat) (st : SortSt) (r : ForInStep CS) (st' : SortSt) : Prop := SameG st st' ∧ match r with
  | .done c => (∃ res, c.1 = some res ∧ res.Perm (x ++ y)) ∨ (c.1 = none ∧ Way x y (b + 1) c.2.1 c.2.2.1 c.2.2.2.1)
  | .yield c => c.1 = none ∧ Way x y (b + 1) c.2.1 c.2.2.1 c.2.2.2.1
theorem wpS_loCmp (C : Cmp prog w A s κ a₀) {st : SortSt} {x y : Array Keyed} {mg b : Nat} {c : CS} (T : Two κ a₀ x y) (hk : kindOf st = κ) (W : Way x y b c.2.1 c.2.2.1 c.2.2.2.1) :
    wpS (model prog w) A E s (loCmp x y mg c) (CmpPost x y b st) st := by
  obtain ⟨v, ev, hv⟩ := mem_of_get T.ym W.hb
  obtain ⟨u, eu, hu⟩ := mem_of_get T.xm (i := c.2.2.1) (by have := W.ha; omega)
  have ha := W.ha
  have hb := W.hb
  have hf := W.far
  unfold loCmp
  refine wpS_bind (wpS_elem ev (wpS_bind (wpS_elem eu (wpS_bind (wpS_lt C hk hv hu fun r => ?_)))))
  cases r with
  | true =>
    dsimp only
    rw [if_pos rfl]
    refine wpS_bind (wpS_elem ev ?_)
    have M := W.mg.pushB ev
    split
    · exact wpS_pure ⟨.rfl' _, .inl ⟨_, rfl, M.done⟩⟩
    · rename_i hne
      have hne : c.2.2.2.1 + 1 ≠ y.size := by simpa using hne
      split
      · exact wpS_pure ⟨.rfl' _, .inr ⟨rfl, M, ha, by show c.2.2.2.1 + 1 < _; omega, by show b + 1 ≤ c.2.2.1 + (c.2.2.2.1 + 1); omega⟩⟩
      · exact wpS_pure ⟨.rfl' _, rfl, M, ha, by show c.2.2.2.1 + 1 < _; omega, by show b + 1 ≤ c.2.2.1 + (c.2.2.2.1 + 1); omega⟩
  | false =>
    dsimp only
    rw [if_neg (by decide)]
    refine wpS_bind (wpS_elem eu ?_)
    have M := W.mg.pushA eu
    split
    · exact wpS_pure ⟨.rfl' _, .inl ⟨_, rfl, M.last⟩⟩
    · rename_i hne
      have hne : c.2.2.1 + 1 + 1 ≠ x.size := by simpa using hne
      split
      · exact wpS_pure ⟨.rfl' _, .inr ⟨rfl, M, by show c.2.2.1 + 1 + 1 < _; omega, hb, by show b + 1 ≤ c.2.2.1 + 1 + c.2.2.2.1; omega⟩⟩
      · exact wpS_pure ⟨.rfl' _, rfl, M, by show c.2.2.1 + 1 + 1 < _; omega, hb, by show b + 1 ≤ c.2.2.1 + 1 + c.2.2.2.1; omega⟩
end

open PySem PySem.W PySem.Calls PyProof.Rows
set_option Elab.async false
set_option maxRecDepth 100000
section
variable {prog : Program} {w : World} {A : Around} {E : Value → Shared → Prop} {s : Shared} {κ : SortKind} {a₀ : Array Keyed} {p : Array (Nat × Nat × Nat)}

def GPost (x y : Array Keyed) (b : Nat) (st : SortSt) (r : ForInStep GS) (st' : SortSt) : Prop := SameG st st' ∧ match r with
  | .done c => (∃ res, c.1 = some res ∧ res.Perm (x ++ y)) ∨ (c.1 = none ∧ Way x y b c.2.1 c.2.2.1 c.2.2.2.1)
  | .yield c => c.1 = none ∧ Way x y b c.2.1 c.2.2.1 c.2.2.2.1

theorem wpS_loG3 {st₀ st : SortSt} {x y out : Array Keyed} {ia ib mg ac bc b : Nat} (hg : SameG st₀ st) (W : Way x y b out ia ib) :
    wpS (model prog w) A E s (loG3 x y out ia ib mg ac bc) (GPost x y b st₀) st := by
  have ha := W.ha
  have hb := W.hb
  have hf := W.far
  have eu : x[ia]? = some x[ia] := getElem?_pos x ia (by omega)
  unfold loG3
  refine wpS_bind (wpS_elem eu ?_)
  have M := W.mg.pushA eu
  split
  · exact wpS_pure ⟨hg, .inl ⟨_, rfl, M.last⟩⟩
  · rename_i hne
    have hne : ia + 1 + 1 ≠ x.size := by simpa using hne
    split
    · exact wpS_pure ⟨hg, .inr ⟨rfl, M, by show ia + 1 + 1 < _; omega, hb, by show b ≤ ia + 1 + ib; omega⟩⟩
    · exact wpS_pure ⟨hg, rfl, M, by show ia + 1 + 1 < _; omega, hb, by show b ≤ ia + 1 + ib; omega⟩

theorem wpS_loG2 (C : Cmp prog w A s κ a₀) {st₀ st : SortSt} {x y out : Array Keyed} {ia ib mg ac bc b : Nat} (T : Two κ a₀ x y) (hk : kindOf st = κ) (hg : SameG st₀ st) (W : Way x y b out ia ib) :
    wpS (model prog w) A E s (loG2 x y out ia ib mg ac bc) (GPost x y b st₀) st := by
  have ha := W.ha
  have hb := W.hb
  have hf := W.far
  obtain ⟨v, ev, hv⟩ := mem_of_get T.ym W.hb
  obtain ⟨u, eu, hu⟩ := mem_of_get T.xm (i := ia) (by omega)
  unfold loG2
  refine wpS_bind (wpS_elem ev ?_)
  have M := W.mg.pushB ev
  split
  · exact wpS_pure ⟨hg, .inl ⟨_, rfl, M.done⟩⟩
  · rename_i hne
    have hne : ib + 1 ≠ y.size := by simpa using hne
    refine wpS_bind (wpS_elem eu (wpS_bind (wpS_gallopP C hk hu (by omega) (by omega) T.ym fun k hkn => ?_)))
    dsimp only
    split
    · have M2 := M.appB (k := k)
      split
      · exact wpS_pure ⟨hg, .inl ⟨_, rfl, M2.done⟩⟩
      · rename_i hne2
        have hne2 : ib + 1 + k ≠ y.size := by simpa using hne2
        exact wpS_loG3 hg ⟨M2, ha, by omega, by omega⟩
    · exact wpS_loG3 hg ⟨M, ha, by omega, by omega⟩

theorem wpS_loG1 (C : Cmp prog w A s κ a₀) {st : SortSt} {x y out : Array Keyed} {ia ib mg ac bc b : Nat} (T : Two κ a₀ x y) (hk : kindOf st = κ) (W : Way x y b out ia ib) :
    wpS (model prog w) A E s (loG1 x y out ia ib mg ac bc) (GPost x y b st) st := by
  have ha := W.ha
  have hb := W.hb
  have hf := W.far
  obtain ⟨v, ev, hv⟩ := mem_of_get T.ym W.hb
  unfold loG1
  refine wpS_bind (wpS_setMin fun st' hg => ?_)
  have hk' : kindOf st' = κ := hg.1.trans hk
  refine wpS_bind (wpS_elem ev (wpS_bind (wpS_gallopP C hk' hv (by omega) (by omega) T.xm fun k hkn => ?_)))
  dsimp only
  split
  · have M := W.mg.appA (k := k)
    split
    · exact wpS_pure ⟨hg, .inl ⟨_, rfl, M.last⟩⟩
    · rename_i hne
      have hne : ia + k + 1 ≠ x.size := by simpa using hne
      split
      · exact wpS_pure ⟨hg, .inl ⟨_, rfl, M.done⟩⟩
      · rename_i hne2
        have hne2 : ia + k ≠ x.size := by simpa using hne2
        exact wpS_loG2 C T hk' hg ⟨M, by omega, hb, by omega⟩
  · exact wpS_loG2 C T hk' hg W
theorem wpS_loG (C : Cmp prog w A s κ a₀) {st : SortSt} {x y : Array Keyed} {b : Nat} {c : GS} (T : Two κ a₀ x y) (hk : kindOf st = κ) (W : Way x y b c.2.1 c.2.2.1 c.2.2.2.1) :
    wpS (model prog w) A E s (loG x y c) (GPost x y b st) st := by
  unfold loG
  split
  · exact wpS_loG1 C T hk W
  · exact wpS_loG1 C T hk W

def TPost (x y : Array Keyed) (b : Nat) (st : SortSt) (r : ForInStep OS) (st' : SortSt) : Prop := SameG st st' ∧ match r with
  | .done c => ∃ res, c.1 = some res ∧ res.Perm (x ++ y)
  | .yield c => c.1 = none ∧ Way x y (b + 1) c.2.1 c.2.2.1 c.2.2.2.1
theorem wpS_loTurn (C : Cmp prog w A s κ a₀) {st : SortSt} {x y : Array Keyed} {b : Nat} {c : OS} (T : Two κ a₀ x y) (hk : kindOf st = κ) (W : Way x y b c.2.1 c.2.2.1 c.2.2.2.1) :
    wpS (model prog w) A E s (loTurn x y c) (TPost x y b st) st := by
  unfold loTurn
  have ha := W.ha
  refine wpS_bind (wpS_mono (wpS_forRange (I := fun t d st' => SameG st st' ∧ d.1 = none ∧ Way x y (b + t) d.2.1 d.2.2.1 d.2.2.2.1)
    (Q := fun d st' => SameG st st' ∧ ((∃ res, d.1 = some res ∧ res.Perm (x ++ y)) ∨ (d.1 = none ∧ Way x y (b + 1) d.2.1 d.2.2.1 d.2.2.2.1))) ?_ ?_ ⟨.rfl' _, rfl, W⟩) ?_)
  · rintro t d st' _ _ ⟨hg, hn, W⟩
    refine wpS_mono (wpS_loCmp C T (hg.1.trans hk) W) fun r st'' ⟨hg', hr⟩ => ?_
    cases r with
    | done d' =>
      refine ⟨hg.trans hg', ?_⟩
      rcases hr with q | ⟨q, W'⟩
      · exact .inl q
      · exact .inr ⟨q, W'.mg, W'.ha, W'.hb, by have := W'.far; omega⟩
    | yield d' => exact ⟨hg.trans hg', hr.1, hr.2⟩
  · rintro d st' ⟨hg, hn, W'⟩
    exact ⟨hg, .inr ⟨hn, W'.mg, W'.ha, W'.hb, by have := W'.far; omega⟩⟩
  rintro d st' ⟨hg, hd⟩
  rcases hd with ⟨res, hres, hp⟩ | ⟨hn, W⟩
  · rw [hres]; exact wpS_pure ⟨hg, res, rfl, hp⟩
  · rw [hn]
    refine wpS_bind (wpS_lift (wpAny_rule ⟨rfl, ?_⟩))
    refine wpS_bind (wpS_mono (wpS_forRange (I := fun t e st' => SameG st st' ∧ e.1 = none ∧ Way x y (b + 1) e.2.1 e.2.2.1 e.2.2.2.1)
      (Q := fun e st' => SameG st st' ∧ ((∃ res, e.1 = some res ∧ res.Perm (x ++ y)) ∨ (e.1 = none ∧ Way x y (b + 1) e.2.1 e.2.2.1 e.2.2.2.1))) ?_ ?_ ⟨hg, rfl, W⟩) ?_)
    · rintro t e st' _ _ ⟨hg, hn, W⟩
      refine wpS_mono (wpS_loG C T (hg.1.trans hk) W) fun r st'' ⟨hg', hr⟩ => ?_
      cases r with
      | done d' => exact ⟨hg.trans hg', hr⟩
      | yield d' => exact ⟨hg.trans hg', hr.1, hr.2⟩
    · rintro e st' ⟨hg, hn, W'⟩
      exact ⟨hg, .inr ⟨hn, W'⟩⟩
    rintro e st' ⟨hg, he⟩
    rcases he with ⟨res, hres, hp⟩ | ⟨hn, W⟩
    · rw [hres]; exact wpS_pure ⟨hg, res, rfl, hp⟩
    · rw [hn]
      exact wpS_bind (wpS_setMin fun st'' hg'' => wpS_pure ⟨hg.trans hg'', rfl, W⟩)

theorem wpS_mergeLoP (C : Cmp prog w A s κ a₀) {st : SortSt} {x y : Array Keyed} {Q : Array Keyed → SortSt → Prop} (T : Two κ a₀ x y) (hk : kindOf st = κ) (hx : 0 < x.size) (hy : 0 < y.size)
    (h : ∀ out st', SameG st st' → out.Perm (x ++ y) → Q out st') : wpS (model prog w) A E s (mergeLo' x y) Q st := by
  rw [mergeLo'_eq2]
  refine wpS_bind (wpS_lift (wpAny_rule ⟨rfl, ?_⟩))
  have e0 : y[0]? = some y[0] := getElem?_pos y 0 hy
  refine wpS_bind (wpS_elem e0 ?_)
  have M0 : Mg x y #[] 0 0 := by unfold Mg; simp
  have M : Mg x y #[y[0]] 0 1 := M0.pushB e0
  split
  · exact wpS_pure (h _ _ (.rfl' _) M.done)
  · rename_i h1
    have h1 : 1 ≠ y.size := by simpa using h1
    split
    · exact wpS_pure (h _ _ (.rfl' _) M.last)
    · rename_i h2
      have h2 : 0 + 1 ≠ x.size := by simpa using h2
      refine wpS_bind (wpS_get ?_)
      refine wpS_bind (wpS_mono (wpS_forRange (I := fun t d st' => SameG st st' ∧ d.1 = none ∧ Way x y (t + 1) d.2.1 d.2.2.1 d.2.2.2.1)
        (Q := fun d st' => SameG st st' ∧ ∃ res, d.1 = some res ∧ res.Perm (x ++ y)) ?_ ?_ ⟨.rfl' _, rfl, M, by show 0 + 1 < _; omega, by show 1 < _; omega, by show 0 + 1 ≤ 0 + 1; omega⟩) ?_)
      · rintro t d st' _ _ ⟨hg, hn, W⟩
        refine wpS_mono (wpS_loTurn C T (hg.1.trans hk) W) fun r st'' ⟨hg', hr⟩ => ?_
        cases r with
        | done d' => exact ⟨hg.trans hg', hr⟩
        | yield d' => exact ⟨hg.trans hg', hr.1, hr.2⟩
      · rintro d st' ⟨hg, hn, W⟩
        have := W.ha
        have := W.hb
        have := W.far
        omega
      rintro d st' ⟨hg, res, hres, hp⟩
      rw [hres]
      exact wpS_pure (h _ _ hg hp)
end

open PySem PySem.W PySem.Calls PyProof.Rows
set_option Elab.async false
set_option maxRecDepth 100000
section
variable {prog : Program} {w : World} {A : Around} {E : Value → Shared → Prop} {s : Shared} {κ : SortKind} {a₀ : Array Keyed} {p : Array (Nat × Nat × Nat)}

def mergeHi' : Array Keyed → Array Keyed → StateT SortSt Sem (Array Keyed) := sortPriv% PySem.Builtin.mergeHi
abbrev HGS := Option (Array Keyed) × Nat × Nat × Array Keyed × Nat × Nat × Nat
abbrev HCS := Option (Array Keyed) × Nat × Nat × Array Keyed × Nat × Nat
abbrev HOS := Option (Array Keyed) × Nat × Nat × Array Keyed × Nat
def hiDone (x y out : Array Keyed) (na nb : Nat) : Array Keyed := x.extract 0 na ++ y.extract 0 nb ++ out.reverse
def hiFirst (x y out : Array Keyed) (na nb : Nat) : Array Keyed := y.extract 0 nb ++ x.extract 0 na ++ out.reverse
def hiCmp (x y : Array Keyed) (mg : Nat) (c : HCS) : StateT SortSt Sem (ForInStep HCS) := do
  let v ← elem' y (c.2.2.1 - 1)
  let u ← elem' x (c.2.1 - 1)
  let r ← lt' v u
  match r with
  | some aWins =>
    if aWins = true then do
      let u ← elem' x (c.2.1 - 1)
      if (c.2.1 - 1 == 0) = true then pure (ForInStep.done (some (hiDone x y (c.2.2.2.1.push u) (c.2.1 - 1) c.2.2.1), c.2.1 - 1, c.2.2.1, c.2.2.2.1.push u, c.2.2.2.2.1 + 1, 0))
      else if c.2.2.2.2.1 + 1 ≥ mg then pure (ForInStep.done (none, c.2.1 - 1, c.2.2.1, c.2.2.2.1.push u, c.2.2.2.2.1 + 1, 0))
      else pure (ForInStep.yield (none, c.2.1 - 1, c.2.2.1, c.2.2.2.1.push u, c.2.2.2.2.1 + 1, 0))
    else do
      let v ← elem' y (c.2.2.1 - 1)
      if (c.2.2.1 - 1 == 1) = true then pure (ForInStep.done (some (hiFirst x y (c.2.2.2.1.push v) c.2.1 (c.2.2.1 - 1)), c.2.1, c.2.2.1 - 1, c.2.2.2.1.push v, 0, c.2.2.2.2.2 + 1))
      else if c.2.2.2.2.2 + 1 ≥ mg then pure (ForInStep.done (none, c.2.1, c.2.2.1 - 1, c.2.2.2.1.push v, 0, c.2.2.2.2.2 + 1))
      else pure (ForInStep.yield (none, c.2.1, c.2.2.1 - 1, c.2.2.2.1.push v, 0, c.2.2.2.2.2 + 1))
  | x_1 => pure (ForInStep.done (some (hiDone x y c.2.2.2.1 c.2.1 c.2.2.1), c.2.1, c.2.2.1, c.2.2.2.1, c.2.2.2.2.1, c.2.2.2.2.2))
def hiG3 (x y out : Array Keyed) (na nb mg ac bc : Nat) : StateT SortSt Sem (ForInStep HGS) := do
  let u ← elem' x (na - 1)
  if (na - 1 == 0) = true then pure (ForInStep.done (some (hiDone x y (out.push u) (na - 1) nb), na - 1, nb, out.push u, mg, ac, bc))
  else if (decide (ac < 7) && decide (bc < 7)) = true then pure (ForInStep.done (none, na - 1, nb, out.push u, mg, ac, bc))
  else pure (ForInStep.yield (none, na - 1, nb, out.push u, mg, ac, bc))
def hiG2 (x y out : Array Keyed) (na nb mg ac bc : Nat) : StateT SortSt Sem (ForInStep HGS) := do
  let v ← elem' y (nb - 1)
  if (nb - 1 == 1) = true then pure (ForInStep.done (some (hiFirst x y (out.push v) na (nb - 1)), na, nb - 1, out.push v, mg, ac, bc))
  else do
    let u ← elem' x (na - 1)
    let r ← gallop' true u y 0 (nb - 1) (nb - 1 - 1)
    match r with
    | some at_ =>
      if nb - 1 - at_ > 0 then
        if (at_ == 1) = true then pure (ForInStep.done (some (hiFirst x y (out.push v ++ (y.extract at_ (nb - 1)).reverse) na at_), na, at_, out.push v ++ (y.extract at_ (nb - 1)).reverse, mg, ac, nb - 1 - at_))
        else if (at_ == 0) = true then pure (ForInStep.done (some (hiDone x y (out.push v ++ (y.extract at_ (nb - 1)).reverse) na at_), na, at_, out.push v ++ (y.extract at_ (nb - 1)).reverse, mg, ac, nb - 1 - at_))
        else hiG3 x y (out.push v ++ (y.extract at_ (nb - 1)).reverse) na at_ mg ac (nb - 1 - at_)
      else hiG3 x y (out.push v) na (nb - 1) mg ac (nb - 1 - at_)
    | x_1 => pure (ForInStep.done (some (hiDone x y (out.push v) na (nb - 1)), na, nb - 1, out.push v, mg, ac, bc))
def hiG1 (x y out : Array Keyed) (na nb mg ac bc : Nat) : StateT SortSt Sem (ForInStep HGS) := do
  setMinGallop' mg
  let v ← elem' y (nb - 1)
  let r ← gallop' false v x 0 na (na - 1)
  match r with
  | some at_ =>
    if na - at_ > 0 then
      if (at_ == 0) = true then pure (ForInStep.done (some (hiDone x y (out ++ (x.extract at_ na).reverse) at_ nb), at_, nb, out ++ (x.extract at_ na).reverse, mg, na - at_, bc))
      else hiG2 x y (out ++ (x.extract at_ na).reverse) at_ nb mg (na - at_) bc
    else hiG2 x y out na nb mg (na - at_) bc
  | x_1 => pure (ForInStep.done (some (hiDone x y out na nb), na, nb, out, mg, ac, bc))
def hiG (x y : Array Keyed) (c : HGS) : StateT SortSt Sem (ForInStep HGS) :=
  if c.2.2.2.2.1 > 1 then hiG1 x y c.2.2.2.1 c.2.1 c.2.2.1 (c.2.2.2.2.1 - 1) c.2.2.2.2.2.1 c.2.2.2.2.2.2
  else hiG1 x y c.2.2.2.1 c.2.1 c.2.2.1 c.2.2.2.2.1 c.2.2.2.2.2.1 c.2.2.2.2.2.2
def hiTurn (x y : Array Keyed) (c : HOS) : StateT SortSt Sem (ForInStep HOS) := do
  let r ← forIn [0:x.size + y.size] ((none, c.2.1, c.2.2.1, c.2.2.2.1, 0, 0) : HCS) fun _ d => hiCmp x y c.2.2.2.2 d
  match r.1 with
  | some res => pure (ForInStep.done (some res, r.2.1, r.2.2.1, r.2.2.2.1, c.2.2.2.2))
  | none => do
    liftM (rule "list.sort.gallop")
    let q ← forIn [0:x.size + y.size] ((none, r.2.1, r.2.2.1, r.2.2.2.1, c.2.2.2.2 + 1, r.2.2.2.2.1, r.2.2.2.2.2) : HGS) fun _ d => hiG x y d
    match q.1 with
    | some res => pure (ForInStep.done (some res, q.2.1, q.2.2.1, q.2.2.2.1, q.2.2.2.2.1))
    | none => do
      setMinGallop' (q.2.2.2.2.1 + 1)
      pure (ForInStep.yield (none, q.2.1, q.2.2.1, q.2.2.2.1, q.2.2.2.2.1 + 1))
theorem mergeHi'_eq2 (x y : Array Keyed) : mergeHi' x y = (do
  liftM (rule "list.sort.merge-hi")
  let u ← elem' x (x.size - 1)
  if (x.size - 1 == 0) = true then pure (hiDone x y #[u] (x.size - 1) y.size)
  else if (y.size == 1) = true then pure (hiFirst x y #[u] (x.size - 1) y.size)
  else do
    let st ← get
    let r ← forIn [0:x.size + y.size] ((none, x.size - 1, y.size, #[u], gallopOf st) : HOS) fun _ d => hiTurn x y d
    match r.1 with
    | some res => pure res
    | none => liftM (unsupported (α := Array Keyed) "internal:list.sort.merge-bound")) := by kernel_rfl
end

open PySem PySem.W PySem.Calls PyProof.Rows
set_option Elab.async false
set_option maxRecDepth 100000
section
variable {prog : Program} {w : World} {A : Around} {E : Value → Shared → Prop} {s : Shared} {κ : SortKind} {a₀ : Array Keyed} {p : Array (Nat × Nat × Nat)}

def Mh (x y out : Array Keyed) (na nb : Nat) : Prop := (out.toList ++ (x.toList.take na ++ y.toList.take nb)).Perm (x.toList ++ y.toList)
theorem take_pred {α : Type} {l : List α} {n : Nat} {u : α} (h0 : 0 < n) (e : l[n - 1]? = some u) : l.take n = l.take (n - 1) ++ [u] := by
  obtain ⟨m, rfl⟩ : ∃ m, n = m + 1 := ⟨n - 1, by omega⟩
  rw [Nat.add_sub_cancel] at e ⊢
  rw [List.take_add_one, e]; rfl
theorem take_cut {α : Type} (l : List α) {i n : Nat} (h : i ≤ n) : l.take n = l.take i ++ (l.drop i).take (n - i) := by
  have e := List.take_append_drop i (l.take n)
  rw [List.take_take, Nat.min_eq_left h, List.drop_take] at e
  exact e.symm
theorem toList_get {x : Array Keyed} {i : Nat} {u : Keyed} (e : x[i]? = some u) : x.toList[i]? = some u := by rw [Array.getElem?_toList]; exact e
theorem Mh.pushA {x y out : Array Keyed} {na nb : Nat} (h : Mh x y out na nb) {u : Keyed} (h0 : 0 < na) (e : x[na - 1]? = some u) : Mh x y (out.push u) (na - 1) nb := by
  unfold Mh at h ⊢
  rw [take_pred h0 (toList_get e)] at h
  refine List.Perm.trans ?_ h
  simp only [Array.toList_push, List.append_assoc, List.singleton_append]
  refine List.Perm.append_left _ ?_
  exact List.perm_middle.symm
theorem Mh.pushB {x y out : Array Keyed} {na nb : Nat} (h : Mh x y out na nb) {u : Keyed} (h0 : 0 < nb) (e : y[nb - 1]? = some u) : Mh x y (out.push u) na (nb - 1) := by
  unfold Mh at h ⊢
  rw [take_pred h0 (toList_get e)] at h
  refine List.Perm.trans ?_ h
  simp only [Array.toList_push, List.append_assoc]
  refine List.Perm.append_left _ ?_
  rw [← List.append_assoc (x.toList.take na)]
  exact List.perm_append_comm
theorem Mh.appA {x y out : Array Keyed} {na nb i : Nat} (h : Mh x y out na nb) (hi : i ≤ na) : Mh x y (out ++ (x.extract i na).reverse) i nb := by
  unfold Mh at h ⊢
  rw [take_cut x.toList hi] at h
  refine List.Perm.trans ?_ h
  rw [Array.toList_append, Array.toList_reverse, extract_toList, List.append_assoc]
  refine List.Perm.append_left _ ?_
  rw [List.append_assoc]
  refine List.Perm.trans (List.Perm.append_right _ (List.reverse_perm _)) ?_
  rw [← List.append_assoc, ← List.append_assoc]
  exact List.Perm.append_right _ List.perm_append_comm
theorem Mh.appB {x y out : Array Keyed} {na nb i : Nat} (h : Mh x y out na nb) (hi : i ≤ nb) : Mh x y (out ++ (y.extract i nb).reverse) na i := by
  unfold Mh at h ⊢
  rw [take_cut y.toList hi] at h
  refine List.Perm.trans ?_ h
  rw [Array.toList_append, Array.toList_reverse, extract_toList, List.append_assoc]
  refine List.Perm.append_left _ ?_
  rw [← List.append_assoc (x.toList.take na)]
  refine List.Perm.trans (List.Perm.append_right _ (List.reverse_perm _)) ?_
  exact List.perm_append_comm
theorem Mh.done {x y out : Array Keyed} {na nb : Nat} (h : Mh x y out na nb) : (hiDone x y out na nb).Perm (x ++ y) := by
  unfold Mh at h
  unfold hiDone
  rw [Array.perm_iff_toList_perm]
  simp only [Array.toList_append, extract_toList, Array.toList_reverse, List.drop_zero, Nat.sub_zero]
  refine List.Perm.trans (List.Perm.append_left _ (List.reverse_perm _)) ?_
  exact List.Perm.trans List.perm_append_comm h
theorem Mh.first {x y out : Array Keyed} {na nb : Nat} (h : Mh x y out na nb) : (hiFirst x y out na nb).Perm (x ++ y) := by
  unfold Mh at h
  unfold hiFirst
  rw [Array.perm_iff_toList_perm]
  simp only [Array.toList_append, extract_toList, Array.toList_reverse, List.drop_zero, Nat.sub_zero]
  refine List.Perm.trans (List.Perm.append_left _ (List.reverse_perm _)) ?_
  refine List.Perm.trans List.perm_append_comm (List.Perm.trans (List.Perm.append_left _ List.perm_append_comm) h)

structure WayH (x y : Array Keyed) (b : Nat) (out : Array Keyed) (na nb : Nat) : Prop where
  mg : Mh x y out na nb
  ha : 0 < na
  ha' : na ≤ x.size
  hb : 1 < nb
  hb' : nb ≤ y.size
  far : na + nb + b ≤ x.size + y.size

def HCmpPost (x y : Array Keyed) (b : Nat) (st : SortSt) (r : ForInStep HCS) (st' : SortSt) : Prop := SameG st st' ∧ match r with
  | .done c => (∃ res, c.1 = some res ∧ res.Perm (x ++ y)) ∨ (c.1 = none ∧ WayH x y (b + 1) c.2.2.2.1 c.2.1 c.2.2.1)
  | .yield c => c.1 = none ∧ WayH x y (b + 1) c.2.2.2.1 c.2.1 c.2.2.1
theorem wpS_hiCmp (C : Cmp prog w A s κ a₀) {st : SortSt} {x y : Array Keyed} {mg b : Nat} {c : HCS} (T : Two κ a₀ x y) (hk : kindOf st = κ) (W : WayH x y b c.2.2.2.1 c.2.1 c.2.2.1) :
    wpS (model prog w) A E s (hiCmp x y mg c) (HCmpPost x y b st) st := by
  obtain ⟨r, na, nb, out, ac, bc⟩ := c
  dsimp only at W
  have ha := W.ha
  have ha' := W.ha'
  have hb := W.hb
  have hb' := W.hb'
  have hf := W.far
  obtain ⟨v, ev, hv⟩ := mem_of_get T.ym (i := nb - 1) (by omega)
  obtain ⟨u, eu, hu⟩ := mem_of_get T.xm (i := na - 1) (by omega)
  unfold hiCmp
  dsimp only
  refine wpS_bind (wpS_elem ev (wpS_bind (wpS_elem eu (wpS_bind (wpS_lt C hk hv hu fun r => ?_)))))
  cases r with
  | true =>
    dsimp only
    rw [if_pos rfl]
    refine wpS_bind (wpS_elem eu ?_)
    have M := W.mg.pushA ha eu
    split
    · exact wpS_pure ⟨.rfl' _, .inl ⟨_, rfl, M.done⟩⟩
    · rename_i hne
      have hne : na - 1 ≠ 0 := by simpa using hne
      have W' : WayH x y (b + 1) (out.push u) (na - 1) nb := ⟨M, by omega, by omega, hb, hb', by omega⟩
      split
      · exact wpS_pure ⟨.rfl' _, .inr ⟨rfl, W'⟩⟩
      · exact wpS_pure ⟨.rfl' _, rfl, W'⟩
  | false =>
    dsimp only
    rw [if_neg (by decide)]
    refine wpS_bind (wpS_elem ev ?_)
    have M := W.mg.pushB (by omega) ev
    split
    · exact wpS_pure ⟨.rfl' _, .inl ⟨_, rfl, M.first⟩⟩
    · rename_i hne
      have hne : nb - 1 ≠ 1 := by simpa using hne
      have W' : WayH x y (b + 1) (out.push v) na (nb - 1) := ⟨M, ha, ha', by omega, by omega, by omega⟩
      split
      · exact wpS_pure ⟨.rfl' _, .inr ⟨rfl, W'⟩⟩
      · exact wpS_pure ⟨.rfl' _, rfl, W'⟩

def HGPost (x y : Array Keyed) (b : Nat) (st : SortSt) (r : ForInStep HGS) (st' : SortSt) : Prop := SameG st st' ∧ match r with
  | .done c => (∃ res, c.1 = some res ∧ res.Perm (x ++ y)) ∨ (c.1 = none ∧ WayH x y b c.2.2.2.1 c.2.1 c.2.2.1)
  | .yield c => c.1 = none ∧ WayH x y b c.2.2.2.1 c.2.1 c.2.2.1
theorem wpS_hiG3 {st₀ st : SortSt} {x y out : Array Keyed} {na nb mg ac bc b : Nat} (hg : SameG st₀ st) (W : WayH x y b out na nb) :
    wpS (model prog w) A E s (hiG3 x y out na nb mg ac bc) (HGPost x y b st₀) st := by
  have ha := W.ha
  have ha' := W.ha'
  have hb := W.hb
  have hb' := W.hb'
  have hf := W.far
  have eu : x[na - 1]? = some x[na - 1] := getElem?_pos x (na - 1) (by omega)
  unfold hiG3
  refine wpS_bind (wpS_elem eu ?_)
  have M := W.mg.pushA ha eu
  split
  · exact wpS_pure ⟨hg, .inl ⟨_, rfl, M.done⟩⟩
  · rename_i hne
    have hne : na - 1 ≠ 0 := by simpa using hne
    have W' : WayH x y b (out.push x[na - 1]) (na - 1) nb := ⟨M, by omega, by omega, hb, hb', by omega⟩
    split
    · exact wpS_pure ⟨hg, .inr ⟨rfl, W'⟩⟩
    · exact wpS_pure ⟨hg, rfl, W'⟩
theorem wpS_hiG2 (C : Cmp prog w A s κ a₀) {st₀ st : SortSt} {x y out : Array Keyed} {na nb mg ac bc b : Nat} (T : Two κ a₀ x y) (hk : kindOf st = κ) (hg : SameG st₀ st) (W : WayH x y b out na nb) :
    wpS (model prog w) A E s (hiG2 x y out na nb mg ac bc) (HGPost x y b st₀) st := by
  have ha := W.ha
  have ha' := W.ha'
  have hb := W.hb
  have hb' := W.hb'
  have hf := W.far
  obtain ⟨v, ev, hv⟩ := mem_of_get T.ym (i := nb - 1) (by omega)
  obtain ⟨u, eu, hu⟩ := mem_of_get T.xm (i := na - 1) (by omega)
  unfold hiG2
  refine wpS_bind (wpS_elem ev ?_)
  have M := W.mg.pushB (by omega) ev
  split
  · exact wpS_pure ⟨hg, .inl ⟨_, rfl, M.first⟩⟩
  · rename_i hne
    have hne : nb - 1 ≠ 1 := by simpa using hne
    refine wpS_bind (wpS_elem eu (wpS_bind (wpS_gallopP C hk hu (by omega) (by omega) T.ym fun k hkn => ?_)))
    dsimp only
    split
    · have M2 := M.appB (i := k) hkn
      split
      · exact wpS_pure ⟨hg, .inl ⟨_, rfl, M2.first⟩⟩
      · rename_i hne1
        have hne1 : k ≠ 1 := by simpa using hne1
        split
        · exact wpS_pure ⟨hg, .inl ⟨_, rfl, M2.done⟩⟩
        · rename_i hne2
          have hne2 : k ≠ 0 := by simpa using hne2
          exact wpS_hiG3 hg ⟨M2, ha, ha', by omega, by omega, by omega⟩
    · exact wpS_hiG3 hg ⟨M, ha, ha', by omega, by omega, by omega⟩
theorem wpS_hiG1 (C : Cmp prog w A s κ a₀) {st : SortSt} {x y out : Array Keyed} {na nb mg ac bc b : Nat} (T : Two κ a₀ x y) (hk : kindOf st = κ) (W : WayH x y b out na nb) :
    wpS (model prog w) A E s (hiG1 x y out na nb mg ac bc) (HGPost x y b st) st := by
  have ha := W.ha
  have ha' := W.ha'
  have hb := W.hb
  have hb' := W.hb'
  have hf := W.far
  obtain ⟨v, ev, hv⟩ := mem_of_get T.ym (i := nb - 1) (by omega)
  unfold hiG1
  refine wpS_bind (wpS_setMin fun st' hg => ?_)
  have hk' : kindOf st' = κ := hg.1.trans hk
  refine wpS_bind (wpS_elem ev (wpS_bind (wpS_gallopP C hk' hv (by omega) (by omega) T.xm fun k hkn => ?_)))
  dsimp only
  split
  · have M := W.mg.appA (i := k) hkn
    split
    · exact wpS_pure ⟨hg, .inl ⟨_, rfl, M.done⟩⟩
    · rename_i hne
      have hne : k ≠ 0 := by simpa using hne
      exact wpS_hiG2 C T hk' hg ⟨M, by omega, by omega, hb, hb', by omega⟩
  · exact wpS_hiG2 C T hk' hg W
theorem wpS_hiG (C : Cmp prog w A s κ a₀) {st : SortSt} {x y : Array Keyed} {b : Nat} {c : HGS} (T : Two κ a₀ x y) (hk : kindOf st = κ) (W : WayH x y b c.2.2.2.1 c.2.1 c.2.2.1) :
    wpS (model prog w) A E s (hiG x y c) (HGPost x y b st) st := by
  unfold hiG
  split
  · exact wpS_hiG1 C T hk W
  · exact wpS_hiG1 C T hk W

def HTPost (x y : Array Keyed) (b : Nat) (st : SortSt) (r : ForInStep HOS) (st' : SortSt) : Prop := SameG st st' ∧ match r with
  | .done c => ∃ res, c.1 = some res ∧ res.Perm (x ++ y)
  | .yield c => c.1 = none ∧ WayH x y (b + 1) c.2.2.2.1 c.2.1 c.2.2.1
theorem WayH.less {x y out : Array Keyed} {b b' na nb : Nat} (W : WayH x y b out na nb) (h : b' ≤ b) : WayH x y b' out na nb := ⟨W.mg, W.ha, W.ha', W.hb, W.hb', by have := W.far; omega⟩
theorem wpS_hiTurn (C : Cmp prog w A s κ a₀) {st : SortSt} {x y : Array Keyed} {b : Nat} {c : HOS} (T : Two κ a₀ x y) (hk : kindOf st = κ) (W : WayH x y b c.2.2.2.1 c.2.1 c.2.2.1) :
    wpS (model prog w) A E s (hiTurn x y c) (HTPost x y b st) st := by
  unfold hiTurn
  have ha := W.ha
  have ha' := W.ha'
  refine wpS_bind (wpS_mono (wpS_forRange (I := fun t d st' => SameG st st' ∧ d.1 = none ∧ WayH x y (b + t) d.2.2.2.1 d.2.1 d.2.2.1)
    (Q := fun d st' => SameG st st' ∧ ((∃ res, d.1 = some res ∧ res.Perm (x ++ y)) ∨ (d.1 = none ∧ WayH x y (b + 1) d.2.2.2.1 d.2.1 d.2.2.1))) ?_ ?_ ⟨.rfl' _, rfl, W⟩) ?_)
  · rintro t d st' _ _ ⟨hg, hn, W⟩
    refine wpS_mono (wpS_hiCmp C T (hg.1.trans hk) W) fun r st'' ⟨hg', hr⟩ => ?_
    cases r with
    | done d' =>
      refine ⟨hg.trans hg', ?_⟩
      rcases hr with q | ⟨q, W'⟩
      · exact .inl q
      · exact .inr ⟨q, W'.less (by omega)⟩
    | yield d' => exact ⟨hg.trans hg', hr.1, hr.2⟩
  · rintro d st' ⟨hg, hn, W'⟩
    exact ⟨hg, .inr ⟨hn, W'.less (by omega)⟩⟩
  rintro d st' ⟨hg, hd⟩
  rcases hd with ⟨res, hres, hp⟩ | ⟨hn, W⟩
  · rw [hres]; exact wpS_pure ⟨hg, res, rfl, hp⟩
  · rw [hn]
    refine wpS_bind (wpS_lift (wpAny_rule ⟨rfl, ?_⟩))
    refine wpS_bind (wpS_mono (wpS_forRange (I := fun t e st' => SameG st st' ∧ e.1 = none ∧ WayH x y (b + 1) e.2.2.2.1 e.2.1 e.2.2.1)
      (Q := fun e st' => SameG st st' ∧ ((∃ res, e.1 = some res ∧ res.Perm (x ++ y)) ∨ (e.1 = none ∧ WayH x y (b + 1) e.2.2.2.1 e.2.1 e.2.2.1))) ?_ ?_ ⟨hg, rfl, W⟩) ?_)
    · rintro t e st' _ _ ⟨hg, hn, W⟩
      refine wpS_mono (wpS_hiG C T (hg.1.trans hk) W) fun r st'' ⟨hg', hr⟩ => ?_
      cases r with
      | done d' => exact ⟨hg.trans hg', hr⟩
      | yield d' => exact ⟨hg.trans hg', hr.1, hr.2⟩
    · rintro e st' ⟨hg, hn, W'⟩
      exact ⟨hg, .inr ⟨hn, W'⟩⟩
    rintro e st' ⟨hg, he⟩
    rcases he with ⟨res, hres, hp⟩ | ⟨hn, W⟩
    · rw [hres]; exact wpS_pure ⟨hg, res, rfl, hp⟩
    · rw [hn]
      exact wpS_bind (wpS_setMin fun st'' hg'' => wpS_pure ⟨hg.trans hg'', rfl, W⟩)

theorem wpS_mergeHiP (C : Cmp prog w A s κ a₀) {st : SortSt} {x y : Array Keyed} {Q : Array Keyed → SortSt → Prop} (T : Two κ a₀ x y) (hk : kindOf st = κ) (hx : 0 < x.size) (hy : 0 < y.size)
    (h : ∀ out st', SameG st st' → out.Perm (x ++ y) → Q out st') : wpS (model prog w) A E s (mergeHi' x y) Q st := by
  rw [mergeHi'_eq2]
  refine wpS_bind (wpS_lift (wpAny_rule ⟨rfl, ?_⟩))
  have e0 : x[x.size - 1]? = some x[x.size - 1] := getElem?_pos x _ (by omega)
  refine wpS_bind (wpS_elem e0 ?_)
  have M0 : Mh x y #[] x.size y.size := by
    unfold Mh
    rw [List.take_of_length_le (by simp), List.take_of_length_le (by simp)]
    exact List.Perm.refl _
  have M : Mh x y #[x[x.size - 1]] (x.size - 1) y.size := M0.pushA hx e0
  split
  · exact wpS_pure (h _ _ (.rfl' _) M.done)
  · rename_i h1
    have h1 : x.size - 1 ≠ 0 := by simpa using h1
    split
    · exact wpS_pure (h _ _ (.rfl' _) M.first)
    · rename_i h2
      have h2 : y.size ≠ 1 := by simpa using h2
      refine wpS_bind (wpS_get ?_)
      refine wpS_bind (wpS_mono (wpS_forRange (I := fun t d st' => SameG st st' ∧ d.1 = none ∧ WayH x y (t + 1) d.2.2.2.1 d.2.1 d.2.2.1)
        (Q := fun d st' => SameG st st' ∧ ∃ res, d.1 = some res ∧ res.Perm (x ++ y)) ?_ ?_ ⟨.rfl' _, rfl, M, by show 0 < x.size - 1; omega, Nat.sub_le _ _, by show 1 < y.size; omega, Nat.le_refl _, by show x.size - 1 + y.size + (0 + 1) ≤ _; omega⟩) ?_)
      · rintro t d st' _ _ ⟨hg, hn, W⟩
        refine wpS_mono (wpS_hiTurn C T (hg.1.trans hk) W) fun r st'' ⟨hg', hr⟩ => ?_
        cases r with
        | done d' => exact ⟨hg.trans hg', hr⟩
        | yield d' => exact ⟨hg.trans hg', hr.1, hr.2⟩
      · rintro d st' ⟨hg, hn, W⟩
        have := W.ha
        have := W.hb
        have := W.far
        omega
      rintro d st' ⟨hg, res, hres, hp⟩
      rw [hres]
      exact wpS_pure (h _ _ hg hp)
end

open PySem PySem.W PySem.Calls PyProof.Rows
set_option Elab.async false
set_option maxRecDepth 100000
section
variable {prog : Program} {w : World} {A : Around} {E : Value → Shared → Prop} {s : Shared} {κ : SortKind} {a₀ : Array Keyed} {p : Array (Nat × Nat × Nat)}

/-- a stretch is laid over with a list -/
def layOver (a m : Array Keyed) (sa : Nat) : Array Keyed := m.toList.zipIdx.foldl (fun a (q : Keyed × Nat) => a.setIfInBounds (sa + q.2) q.1) a
theorem foldl_set : ∀ (m : List Keyed) (a : List Keyed) (sa k : Nat), sa + k + m.length ≤ a.length →
    ((m.zipIdx k).foldl (fun a (q : Keyed × Nat) => a.setIfInBounds (sa + q.2) q.1) a.toArray).toList = a.take (sa + k) ++ m ++ a.drop (sa + k + m.length)
  | [], a, sa, k, _ => by simp
  | v :: m, a, sa, k, h => by
    rw [List.length_cons] at h
    rw [List.zipIdx_cons, List.foldl_cons]
    show ((m.zipIdx (k + 1)).foldl _ (a.toArray.setIfInBounds (sa + k) v)).toList = _
    rw [List.setIfInBounds_toArray, foldl_set m (a.set (sa + k) v) sa (k + 1) (by rw [List.length_set]; omega)]
    rw [List.length_cons]
    have e1 : (a.set (sa + k) v).take (sa + (k + 1)) = a.take (sa + k) ++ [v] := by
      rw [show sa + (k + 1) = sa + k + 1 by omega, List.take_add_one, List.take_set_of_le (by omega), List.getElem?_set_self (by omega)]; rfl
    have e2 : (a.set (sa + k) v).drop (sa + (k + 1) + m.length) = a.drop (sa + k + (m.length + 1)) := by
      rw [List.drop_set_of_lt (by omega)]; congr 1; omega
    rw [e1, e2]; simp
theorem layOver_perm {a m : Array Keyed} {sa n : Nat} (hn : sa + n ≤ a.size) (hp : m.Perm (a.extract sa (sa + n))) : (layOver a m sa).Perm a := by
  have hl : m.size = n := by rw [hp.size_eq, Array.size_extract]; omega
  rw [Array.perm_iff_toList_perm] at hp ⊢
  rw [extract_toList, show sa + n - sa = n by omega] at hp
  unfold layOver
  have e := foldl_set m.toList a.toList sa 0 (by simp; omega)
  rw [show a.toList.toArray = a by simp] at e
  rw [e, Nat.add_zero, show m.toList.length = n by simpa using hl, List.append_assoc]
  refine List.Perm.trans (List.Perm.append_left _ (List.Perm.append_right _ hp)) ?_
  refine List.Perm.of_eq ?_
  rw [← List.drop_drop, List.take_append_drop, List.take_append_drop]

end

open PySem PySem.W PySem.Calls PyProof.Rows
set_option Elab.async false
set_option maxRecDepth 100000
section
variable {prog : Program} {w : World} {A : Around} {E : Value → Shared → Prop} {s : Shared} {κ : SortKind} {a₀ : Array Keyed} {p : Array (Nat × Nat × Nat)}

/-- runs that follow one another -/
def RunsL : List (Nat × Nat × Nat) → Nat → Nat → Prop
  | [], b, e => b = e
  | q :: r, b, e => q.1 = b ∧ 1 ≤ q.2.1 ∧ RunsL r (b + q.2.1) e
theorem RunsL.le : ∀ {l : List (Nat × Nat × Nat)} {b e : Nat}, RunsL l b e → b ≤ e
  | [], _, _, h => Nat.le_of_eq h
  | _ :: _, _, _, h => by have := RunsL.le h.2.2; omega
theorem RunsL.snoc : ∀ {l : List (Nat × Nat × Nat)} {b e n k : Nat}, RunsL l b e → 1 ≤ n → RunsL (l ++ [(e, n, k)]) b (e + n)
  | [], _, _, _, _, h, hn => by cases h; exact ⟨rfl, hn, rfl⟩
  | _ :: _, _, _, _, _, h, hn => ⟨h.1, h.2.1, RunsL.snoc h.2.2 hn⟩
theorem RunsL.merge : ∀ {l : List (Nat × Nat × Nat)} {b e i sa na pw sb nb pw2 : Nat}, RunsL l b e → l[i]? = some (sa, na, pw) → l[i + 1]? = some (sb, nb, pw2) →
    sb = sa + na ∧ 1 ≤ na ∧ 1 ≤ nb ∧ sb + nb ≤ e ∧ RunsL ((l.set i (sa, na + nb, pw)).eraseIdx (i + 1)) b e
  | [], _, _, _, _, _, _, _, _, _, _, e1, _ => by cases e1
  | [_], _, _, 0, _, _, _, _, _, _, _, _, e2 => by cases e2
  | q :: q2 :: r, b, e, 0, sa, na, pw, sb, nb, pw2, h, e1, e2 => by
    cases e1; cases e2
    obtain ⟨h1, h2, h3, h4, h5⟩ := h
    simp only at h1 h2 h3 h4 h5
    have := h5.le
    refine ⟨by omega, h2, h4, by omega, ?_⟩
    show RunsL ((sa, na + nb, pw) :: r) b e
    exact ⟨h1, by show 1 ≤ na + nb; omega, by show RunsL r (b + (na + nb)) e; rw [← Nat.add_assoc]; exact h5⟩
  | q :: r, b, e, i + 1, sa, na, pw, sb, nb, pw2, h, e1, e2 => by
    obtain ⟨h1, h2, h3⟩ := h
    obtain ⟨a1, a2, a3, a4, a5⟩ := RunsL.merge h3 (i := i) (by simpa using e1) (by simpa using e2)
    exact ⟨a1, a2, a3, a4, h1, h2, a5⟩
end

open PySem PySem.W PySem.Calls PyProof.Rows
set_option Elab.async false
set_option maxRecDepth 100000
section
variable {prog : Program} {w : World} {A : Around} {E : Value → Shared → Prop} {s : Shared} {κ : SortKind} {a₀ : Array Keyed} {p : Array (Nat × Nat × Nat)}

theorem mem_extract' {x : Array Keyed} {i j : Nat} {z : Keyed} (h : z ∈ x.extract i j) : z ∈ x := by
  rw [← Array.mem_toList_iff, extract_toList] at h
  rw [← Array.mem_toList_iff]
  exact List.mem_of_mem_drop (List.mem_of_mem_take h)
theorem wpS_set {σ : Type} {M : Model} {x st : σ} {Q : PUnit → σ → Prop} (h : Q ⟨⟩ x) : wpS M A E s (set x : StateT σ Sem PUnit) Q st := wpS_modify (f := fun _ => x) h

theorem wpS_mergeAtP (C : Cmp prog w A s κ a₀) {st : SortSt} {i lo : Nat} {Q : Bool → SortSt → Prop} (hS : SI κ a₀ p st) (hR : RunsL p.toList 0 lo) (hlo : lo ≤ a₀.size) (hi : i + 1 < p.size)
    (h : ∀ p' st', SI κ a₀ p' st' → RunsL p'.toList 0 lo → Q true st') : wpS (model prog w) A E s (mergeAt' i) Q st := by
  obtain ⟨⟨sa, na, pw⟩, e1⟩ : ∃ q, p[i]? = some q := ⟨p[i], getElem?_pos p i (by omega)⟩
  obtain ⟨⟨sb, nb, pw2⟩, e2⟩ : ∃ q, p[i + 1]? = some q := ⟨p[i + 1], getElem?_pos p (i + 1) hi⟩
  obtain ⟨r1, r2, r3, r4, r5⟩ := hR.merge (i := i) (by rw [Array.getElem?_toList]; exact e1) (by rw [Array.getElem?_toList]; exact e2)
  refine wpS_bind (wpS_get ?_)
  have hpp : (sortPriv% PySem.Builtin.SortState.pending) st = p := hS.pend
  rw [hpp, e1, e2]
  dsimp only
  have hS' : SI κ a₀ ((p.setIfInBounds i (sa, na + nb, pw)).eraseIdxIfInBounds (i + 1)) (setPending st ((p.setIfInBounds i (sa, na + nb, pw)).eraseIdxIfInBounds (i + 1))) := ⟨hS.kind, hS.failed, hS.perm, rfl⟩
  have hR' : RunsL ((p.setIfInBounds i (sa, na + nb, pw)).eraseIdxIfInBounds (i + 1)).toList 0 lo := by
    have e : ((p.setIfInBounds i (sa, na + nb, pw)).eraseIdxIfInBounds (i + 1)).toList = (p.toList.set i (sa, na + nb, pw)).eraseIdx (i + 1) := by
      simp [Array.eraseIdxIfInBounds, hi]
    rw [e]; exact r5
  generalize (p.setIfInBounds i (sa, na + nb, pw)).eraseIdxIfInBounds (i + 1) = p' at hS' hR' ⊢
  refine wpS_bind (wpS_set ?_)
  have hsz := hS.size
  have hsz2 : ((sortPriv% PySem.Builtin.SortState.a) st).size = a₀.size := hS.size
  have hm : ∀ z ∈ arrOf st, z ∈ a₀ := fun z hz => (hS.perm.mem_iff).mp hz
  obtain ⟨v, ev, hv⟩ := mem_of_get hm (i := sb) (by omega)
  refine wpS_bind (wpS_elem ev (wpS_bind (wpS_gallopP C hS'.kind hv (by omega) (by omega) hm fun k hk => ?_)))
  dsimp only
  split
  · exact wpS_pure (h _ _ hS' hR')
  · rename_i hne
    have hne : na - k ≠ 0 := by simpa using hne
    obtain ⟨u, eu, hu⟩ := mem_of_get hm (i := sa + k + (na - k) - 1) (by omega)
    refine wpS_bind (wpS_elem eu (wpS_bind (wpS_gallopP C hS'.kind hu (by omega) (by omega) hm fun nb' hnb => ?_)))
    dsimp only
    split
    · exact wpS_pure (h _ _ hS' hR')
    · rename_i hne2
      have hne2 : nb' ≠ 0 := by simpa using hne2
      have T : Two κ a₀ ((arrOf st).extract (sa + k) sb) ((arrOf st).extract sb (sb + nb')) := ⟨fun z hz => hm z (mem_extract' hz), fun z hz => hm z (mem_extract' hz)⟩
      have fin : ∀ (out : Array Keyed) st', SameG (setPending st p') st' → out.Perm ((arrOf st).extract (sa + k) sb ++ (arrOf st).extract sb (sb + nb')) →
          wpS (model prog w) A E s (do
            modify fun s => setArr s (layOver (arrOf s) out (sa + k))
            let t ← get
            pure (failedOf t).isNone) Q st' := by
        intro out st' hg hp
        refine wpS_bind (wpS_modify (wpS_bind (wpS_get ?_)))
        have hS2 : SI κ a₀ p' st' := ⟨hg.1.trans hS'.kind, hg.2.2.2.trans hS'.failed, by rw [hg.2.1]; exact hS'.perm, hg.2.2.1.trans hS'.pend⟩
        have ha : arrOf st' = arrOf st := hg.2.1
        have hpp : out.Perm ((arrOf st').extract (sa + k) (sa + k + (na - k + nb'))) := by
          rw [ha]
          refine hp.trans (Array.Perm.of_eq ?_)
          rw [Array.extract_append_extract]
          congr 1 <;> omega
        have hS3 := hS2.setArr (layOver_perm (by rw [hS2.size]; omega) hpp)
        have hf : (failedOf (setArr st' (layOver (arrOf st') out (sa + k)))).isNone = true := by rw [hS3.failed]; rfl
        rw [hf]
        exact wpS_pure (h _ _ hS3 hR')
      split
      · exact wpS_bind (wpS_mergeLoP C T hS'.kind (by rw [Array.size_extract]; omega) (by rw [Array.size_extract]; omega) fin)
      · exact wpS_bind (wpS_mergeHiP C T hS'.kind (by rw [Array.size_extract]; omega) (by rw [Array.size_extract]; omega) fin)
end

open PySem PySem.W PySem.Calls PyProof.Rows
set_option Elab.async false
set_option maxRecDepth 100000
section
variable {prog : Program} {w : World} {A : Around} {E : Value → Shared → Prop} {s : Shared} {κ : SortKind} {a₀ : Array Keyed} {p : Array (Nat × Nat × Nat)}

theorem RunsL.modifyLast : ∀ {l : List (Nat × Nat × Nat)} {b e k : Nat}, RunsL l b e → RunsL (l.modify (l.length - 1) fun x => (x.1, x.2.1, k)) b e
  | [], _, _, _, h => h
  | [q], _, _, _, h => h
  | q :: q2 :: r, b, e, k, h => ⟨h.1, h.2.1, RunsL.modifyLast (l := q2 :: r) h.2.2⟩

theorem if_lt {c : Prop} [Decidable c] {a b n : Nat} (ha : a + 1 < n) (hb : b + 1 < n) : (if c then a else b) + 1 < n := by split <;> assumption

theorem wpS_sortRunsP (C : Cmp prog w A s κ a₀) {st : SortSt} {Q : Unit → SortSt → Prop} (hS : SI κ a₀ #[] st)
    (h : ∀ p st', SI κ a₀ p st' → Q () st') : wpS (model prog w) A E s sortRuns' Q st := by
  rw [sortRuns'_eq]
  refine wpS_bind (wpS_get ?_)
  simp only [hS.size]
  generalize minRun' a₀.size a₀.size 0 = mr
  refine wpS_bind (wpS_mono (wpS_forRange (I := fun _ c st' => c.1 = none ∧ ∃ p, SI κ a₀ p st' ∧ RunsL p.toList 0 c.2 ∧ c.2 ≤ a₀.size)
    (Q := fun c st' => c.1 = none ∧ ∃ p, SI κ a₀ p st' ∧ RunsL p.toList 0 c.2 ∧ c.2 ≤ a₀.size) ?_ (fun _ _ h => h) (by exact ⟨rfl, #[], hS, rfl, Nat.zero_le _⟩)) ?_)
  · rintro x ⟨c1, lo⟩ st' _ _ ⟨hc, p, hS, hR, hlo⟩
    dsimp only at hc hR hlo
    subst hc
    dsimp only
    split
    · exact wpS_pure ⟨rfl, p, hS, hR, hlo⟩
    rename_i hlt
    -- the older runs, then the new one
    have older : ∀ (pw n : Nat) (st' : SortSt) (p : Array (Nat × Nat × Nat)), SI κ a₀ p st' → RunsL p.toList 0 lo → 1 ≤ n → lo + n ≤ a₀.size → ∀ (R : Option Unit × Unit → SortSt → Prop),
        (∀ p st', SI κ a₀ p st' → RunsL p.toList 0 lo → R (none, ()) st') →
        wpS (model prog w) A E s (forIn [0:a₀.size] ((none, ()) : Option Unit × Unit) fun _ _ => do
          let t ← get
          match if (pendingOf t).size > 1 then (pendingOf t)[(pendingOf t).size - 2]? else none with
          | some (_, _, older) =>
            if older ≤ pw then pure (ForInStep.done (none, ()))
            else do
              let b ← mergeAt' ((pendingOf t).size - 2)
              if (!b) = true then pure (ForInStep.done (some (), ())) else pure (ForInStep.yield (none, ()))
          | _ => pure (ForInStep.done (none, ()))) R st' := by
      intro pw n st' p hS hR h1 h2 R hk
      refine wpS_forRange (I := fun _ c st' => c = (none, ()) ∧ ∃ p, SI κ a₀ p st' ∧ RunsL p.toList 0 lo) ?_ (fun c st' ⟨e, p, hS, hR⟩ => e ▸ hk p st' hS hR) ⟨rfl, p, hS, hR⟩
      rintro x c st' _ _ ⟨rfl, p, hS, hR⟩
      refine wpS_bind (wpS_get ?_)
      rw [hS.pend]
      split
      · rename_i heq
        have hp : p.size > 1 := by
          by_cases q : p.size > 1
          · exact q
          · rw [if_neg q] at heq; cases heq
        split
        · exact wpS_pure (hk p st' hS hR)
        · refine wpS_bind (wpS_mergeAtP C hS hR hlo (by omega) fun p' st'' hS' hR' => ?_)
          exact wpS_pure ⟨rfl, p', hS', hR'⟩
      · exact wpS_pure (hk p st' hS hR)
    have push : ∀ (n : Nat) (st' : SortSt) (p : Array (Nat × Nat × Nat)), SI κ a₀ p st' → RunsL p.toList 0 lo → 1 ≤ n → lo + n ≤ a₀.size →
        ∃ p, SI κ a₀ p (setPending st' ((pendingOf st').push (lo, n, 0))) ∧ RunsL p.toList 0 (lo + n) ∧ lo + n ≤ a₀.size := fun n st' p hS hR h1 h2 =>
      ⟨p.push (lo, n, 0), ⟨hS.kind, hS.failed, hS.perm, by show (pendingOf st').push _ = _; rw [hS.pend]⟩, by rw [Array.toList_push]; exact hR.snoc h1, h2⟩
    have mark : ∀ (pw : Nat) (st' : SortSt) (p : Array (Nat × Nat × Nat)), SI κ a₀ p st' → RunsL p.toList 0 lo →
        ∃ p', SI κ a₀ p' (setPending st' ((pendingOf st').modify ((pendingOf st').size - 1) fun x => (x.fst, x.2.fst, pw))) ∧ RunsL p'.toList 0 lo := fun pw st' p hS hR =>
      ⟨p.modify (p.size - 1) fun x => (x.fst, x.2.fst, pw), ⟨hS.kind, hS.failed, hS.perm, congrArg (fun q : Array (Nat × Nat × Nat) => q.modify (q.size - 1) fun x => (x.fst, x.2.fst, pw)) hS.pend⟩, by
        rw [Array.toList_modify, show p.size = p.toList.length by simp]; exact hR.modifyLast⟩
    have rest : ∀ (n : Nat) (st' : SortSt) (p : Array (Nat × Nat × Nat)), SI κ a₀ p st' → RunsL p.toList 0 lo → 1 ≤ n → lo + n ≤ a₀.size →
        ∀ (s1 n1 pw : Nat) (c : Option Unit × Unit), c = (none, ()) → wpS (model prog w) A E s (do
            modify fun s => setPending s ((pendingOf s).modify ((pendingOf s).size - 1) fun x => (x.fst, x.2.fst, pw))
            modify fun s => setPending s ((pendingOf s).push (lo, n, 0))
            pure (ForInStep.yield ((none, lo + n) : Option Unit × Nat)))
          (fun r st' =>
            match r with
            | ForInStep.done c' => c'.fst = none ∧ ∃ p, SI κ a₀ p st' ∧ RunsL p.toList 0 c'.snd ∧ c'.snd ≤ a₀.size
            | ForInStep.yield c' => c'.fst = none ∧ ∃ p, SI κ a₀ p st' ∧ RunsL p.toList 0 c'.snd ∧ c'.snd ≤ a₀.size) st' := by
      intro n st' p hS hR h1 h2 s1 n1 pw c hc
      refine wpS_bind (wpS_modify ?_)
      obtain ⟨p', hS', hR'⟩ := mark pw st' p hS hR
      refine wpS_bind (wpS_modify (wpS_pure ?_))
      exact ⟨rfl, push n _ p' hS' hR' h1 h2⟩
    refine wpS_bind (wpS_countRunP C hS (by omega) (by omega) fun found st' hS h1 h2 => ?_)
    dsimp only
    split
    · rename_i hfm
      refine wpS_bind (wpS_lift (wpAny_rule ⟨rfl, ?_⟩))
      refine wpS_bind (wpS_binarySortP C hS (by omega) fun st' hS => ?_)
      rw [if_neg (by decide)]
      refine wpS_bind (wpS_get ?_)
      split
      · refine wpS_bind (older _ (min (a₀.size - lo) mr) _ _ hS hR (by omega) (by omega) _ fun p st' hS hR => ?_)
        dsimp only
        exact rest _ _ _ hS hR (by omega) (by omega) 0 0 _ (none, ()) rfl
      · refine wpS_bind (wpS_modify (wpS_pure ?_))
        exact ⟨rfl, push _ _ _ hS hR (by omega) (by omega)⟩
    · refine wpS_bind (wpS_get ?_)
      split
      · refine wpS_bind (older _ found _ _ hS hR (by omega) (by omega) _ fun p st' hS hR => ?_)
        dsimp only
        exact rest _ _ _ hS hR (by omega) (by omega) 0 0 _ (none, ()) rfl
      · refine wpS_bind (wpS_modify (wpS_pure ?_))
        exact ⟨rfl, push _ _ _ hS hR (by omega) (by omega)⟩
  · rintro ⟨c1, lo⟩ st' ⟨hc, p, hS, hR, hlo⟩
    dsimp only at hc hR hlo
    subst hc
    dsimp only
    refine wpS_bind (wpS_forRange (I := fun _ c st' => c = (none, ()) ∧ ∃ p, SI κ a₀ p st' ∧ RunsL p.toList 0 lo) ?_ (fun c st' ⟨e, p, hS, hR⟩ => by subst e; exact wpS_pure (h _ _ hS)) ⟨rfl, p, hS, hR⟩)
    rintro x c st' _ _ ⟨rfl, p, hS, hR⟩
    refine wpS_bind (wpS_get ?_)
    rw [hS.pend]
    split
    · exact wpS_pure (wpS_pure (h _ _ hS))
    · rename_i hsz
      refine wpS_bind (wpS_mergeAtP C hS hR hlo (if_lt (by omega) (by omega)) fun p' st'' hS' hR' => ?_)
      exact wpS_pure ⟨rfl, p', hS', hR'⟩
end

open PySem PySem.W PySem.Calls PyProof.Rows
set_option Elab.async false
set_option maxRecDepth 100000
section
variable {prog : Program} {w : World} {A : Around} {E : Value → Shared → Prop} {s : Shared}

def IntV (v : Value) : Prop := ∃ i t, v = .int i t
def Tup1 (h : Heap) (v : Value) : Prop :=
  ∃ a o xs n, v = .ref a ∧ h.get? a = some o ∧ o.cls = .type "tuple" ∧ o.data = .seq xs n ∧ (∀ x ∈ xs, IntV x) ∧ 0 < xs.size

theorem Tup1.keep {h h' : Heap} {v : Value} (t : Tup1 h v) (k : ∀ a o, h.get? a = some o → o.cls = .type "tuple" → h'.get? a = some o) : Tup1 h' v :=
  let ⟨a, o, xs, n, e, ho, hc, hd, hi, h0⟩ := t; ⟨a, o, xs, n, e, k a o ho hc, hc, hd, hi, h0⟩

theorem katLex_ints {b fin : Bool} : ∀ (l : List (Value × Value)) (i : Nat) (s₀ : Shared), (∀ p ∈ l, IntV p.1 ∧ IntV p.2) → KatLex prog w A b fin (fun _ s' => s' = s₀) l i s₀
  | [], _, _, _ => kat_nil rfl
  | (p, q) :: r, i, s₀, hp => by
    obtain ⟨⟨x, t, e1⟩, ⟨y, u, e2⟩⟩ := hp _ (.head _)
    dsimp only at e1 e2
    subst e1 e2
    refine kat_cons (wpAny_eqBool_int ?_)
    refine kat_go (fun _ => kat_yes (katLex_ints r (i + 1) s₀ fun p hp' => hp p (.tail _ hp'))) (fun _ => kat_no ?_)
    cases (b && i == 0) with
    | true => exact oneLt_int rfl
    | false => exact kat_one _ _ (P.lt_int (show W.BoolBack _ _ _ from rfl))

theorem cmp_tups {b : Bool} {vs : List Value} (h : ∀ v ∈ vs, Tup1 s.heap v) : Cmp prog w A s (tuples' b) (pairsOf vs) := fun x y hx hy E => by
  have key : ∀ x ∈ pairsOf vs, Tup1 s.heap x.1 := fun x hx => by
    rw [← Array.mem_toList_iff, pairsOf_toList] at hx
    exact h _ (List.of_mem_zip hx).1
  obtain ⟨a, o, xs, n, e, ho, hc, hd, hi, h0⟩ := key x hx
  obtain ⟨a', o', xs', n', e', ho', hc', hd', hi', h0'⟩ := key y hy
  rw [e, e']
  refine kat_lt ho hd ho' hd' (katLex_ints _ 0 s fun p hp => ?_)
  have := List.of_mem_zip (show (p.1, p.2) ∈ _ from hp)
  exact ⟨hi _ (Array.mem_toList_iff.mp this.1), hi' _ (Array.mem_toList_iff.mp this.2)⟩

theorem katTups_of : ∀ (vs : List Value), (∀ v ∈ vs, Tup1 s.heap v) → ∃ fs, KatTups s.heap vs fs ∧ fs.length = vs.length ∧ ∀ f ∈ fs, IntV f
  | [], _ => ⟨[], .nil, rfl, nofun⟩
  | v :: vs, h => by
    obtain ⟨fs, t, e, hf⟩ := katTups_of vs fun v hv => h v (.tail _ hv)
    obtain ⟨a, o, xs, n, rfl, ho, hc, hd, hi, h0⟩ := h v (.head _)
    refine ⟨xs[0] :: fs, .cons ho hc hd (Array.getElem?_eq_getElem h0) t, by simp [e], fun f hf' => ?_⟩
    rcases List.mem_cons.mp hf' with rfl | hf'
    · exact hi _ (Array.getElem_mem _)
    · exact hf f hf'

theorem kind_tups {M : Model} {vs : List Value} {Q : SortKind → Shared → Prop} (h : ∀ v ∈ vs, Tup1 s.heap v) (hn : 0 < vs.length) (H : Q (tuples' true) s) : wpAny M A (keyKind' vs.toArray) Q E s := by
  obtain ⟨fs, t, e, hf⟩ := katTups_of vs h
  refine kat_kind (T := .type "int") t (by omega) (fun v hv => ?_) (by rfl) (by exact H)
  obtain ⟨i, u, rfl⟩ := hf v hv
  exact .now

/-- while a list is sorted it stands empty; its items are held by a tuple, its keys (none here) by a list -/
def atWork (h : Heap) (a : Addr) (vs : List Value) : Heap := ((h.update a (Obj.mapSeq fun _ => #[])).push (seqObj "tuple" vs.toArray 0)).push (seqObj "list" #[] 0)
theorem atWork_other {h : Heap} {a b : Addr} {vs : List Value} {o : Obj} (hb : h.get? b = some o) (hne : b ≠ a) : (atWork h a vs).get? b = some o :=
  Heap.get?_push_of_some _ (Heap.get?_push_of_some _ ((Heap.get?_update_ne _ _ _ _ hne).trans hb))
theorem atWork_self {h : Heap} {a : Addr} {vs xs : List Value} {n : Nat} (ha : h.get? a = some (seqObj "list" xs.toArray n)) :
    ∃ e, (h.update a (Obj.mapSeq fun _ => #[])).get? a = some (seqObj "list" #[] e) ∧ (atWork h a vs).get? a = some (seqObj "list" #[] e) :=
  ⟨_, get?_update_seq ha (fun _ => #[]), Heap.get?_push_of_some _ (Heap.get?_push_of_some _ (get?_update_seq ha (fun _ => #[])))⟩

/-- the kind is told, the runs are merged: the items in some order, nothing failed -/
theorem sort_core {vs : List Value} {next : SortKind → Sem PySem.Fin} {P : PySem.Fin → Shared → Prop} (hI : ∀ v ∈ vs, Tup1 s.heap v)
    (H : ∀ κ, wpAny (model prog w) A ((if vs.toArray.size < 2 then pure () else sortRuns' : StateT SortSt Sem Unit).run (SortSt.mk' κ (vs.toArray.zip vs.toArray) #[] 7 none))
      (fun r s' => s' = s ∧ (arrOf r.2).Perm (pairsOf vs) ∧ failedOf r.2 = none) E s → wpAny (model prog w) A (next κ) P E s) :
    wpAny (model prog w) A (if vs.toArray.size < 2 then (do let κ ← pure general'; next κ) else (do let κ ← keyKind' vs.toArray; next κ)) P E s := by
  rcases Nat.lt_or_ge vs.toArray.size 2 with few | many
  · rw [if_pos few]
    exact wpAny_bind (wpAny_pure (H _ (by rw [if_pos few]; exact wpAny_pure ⟨rfl, Array.Perm.refl _, rfl⟩)))
  · have more := Nat.not_lt.mpr many
    rw [if_neg more]
    refine wpAny_bind (kind_tups hI (by simpa using Nat.lt_of_lt_of_le Nat.zero_lt_two many) (H _ ?_))
    rw [if_neg more]
    exact wpS_sortRunsP (cmp_tups hI) (st := SortSt.mk' (tuples' true) (vs.toArray.zip vs.toArray) #[] 7 none)
      (Q := fun _ st => (arrOf st).Perm (pairsOf vs) ∧ failedOf st = none) ⟨rfl, rfl, Array.Perm.refl _, rfl⟩ fun p st hS => ⟨hS.perm, hS.failed⟩

theorem perm_out {vs : List Value} {st : SortSt} (h : (arrOf st).Perm (pairsOf vs)) : ((arrOf st).map (·.2)).toList.Perm vs ∧ ((arrOf st).map (·.2)).size = vs.length := by
  refine ⟨?_, by rw [Array.size_map, h.size_eq, pairsOf_size]⟩
  have q := (Array.perm_iff_toList_perm.mp h).map (·.2)
  rw [pairsOf_toList, List.map_snd_zip (Nat.le_refl _)] at q
  rw [Array.toList_map]; exact q

theorem list_sort_tups {a : Addr} {vs : List Value} {n : Nat} {P : Fin → Shared → Prop} (ho : s.heap.get? a = some (seqObj "list" vs.toArray n))
    (hI : ∀ v ∈ vs, Tup1 s.heap v) (hz : vs.length ≤ sizeLine)
    (h : ∀ (out : Array Value), out.toList.Perm vs → P (.done (.ret .none)) { s with heap := sortedHeap s.heap a vs out }) :
    wpAny (model prog w) A (Builtin.«list.sort» ⟨[.ref a], []⟩) P E s := by
  have hz' : vs.toArray.size ≤ sizeLine := by simpa using hz
  obtain ⟨e, he, hw⟩ := atWork_self (vs := vs) ho
  have hI' : ∀ v ∈ vs, Tup1 (atWork s.heap a vs) v := fun v hv => (hI v hv).keep fun b o hb hc => atWork_other hb fun q => by
    rw [q, ho] at hb; cases hb; exact absurd (Value.type.inj hc) (by decide)
  rw [list_sort_plain]
  refine wpAny_bind (listItems_at ho rfl (wpAny_bind (listUpdate_at ho rfl (wpAny_bind (seqEpoch_at he rfl (wpAny_bind (wpAny_newTuple (wpAny_bind (wpAny_newList (wpAny_holding ?_) (Nat.zero_le _))) hz')))) hz' (Nat.zero_le _))))
  refine sort_core (s := { s with heap := atWork s.heap a vs }) hI' fun κ run => wpAny_bind (wpAny_mono run ?_ fun _ _ x => x)
  rintro ⟨⟨⟩, st⟩ s' ⟨rfl, hp, hf⟩
  obtain ⟨o1, o2⟩ := perm_out hp
  refine wpAny_bind (seqEpoch_at hw rfl (wpAny_bind (listUpdate_at hw rfl ?_ (Nat.zero_le _) (Nat.le_succ_of_le (Nat.le_trans (Nat.le_of_eq o2) hz)))))
  rw [hf]
  simp only [bne_self_eq_false, Bool.false_eq_true, if_false]
  exact wpAny_pure (h _ o1)

theorem sorted_tups {l : Addr} {vs : List Value} {Q : Value → Shared → Prop} (hl : s.heap.IsList l vs.toArray) (hI : ∀ v ∈ vs, Tup1 s.heap v) (hz : vs.length ≤ sizeLine)
    (h : ∀ (out : Array Value), out.toList.Perm vs → Q (.ref (s.heap.objs.size + 1)) { s with heap := sortedAll s.heap vs out }) :
    wpAny (model prog w) A (call (.builtin "sorted") [.ref l]) Q E s := by
  -- the heap when the copy is made: one list that is spent, one that is to be sorted
  have size1 : ((s.heap.push (seqObj "list" #[] 0)).update s.heap.objs.size (Obj.mapSeq (· ++ vs.toArray))).objs.size = s.heap.objs.size + 1 := by rw [Heap.size_update, size_push']
  have mine : (((s.heap.push (seqObj "list" #[] 0)).update s.heap.objs.size (Obj.mapSeq (· ++ vs.toArray))).push (seqObj "list" vs.toArray 0)).get? (s.heap.objs.size + 1) = some (seqObj "list" vs.toArray 0) :=
    size1 ▸ Heap.get?_push_size _ rfl
  have kept : ∀ v ∈ vs, Tup1 (((s.heap.push (seqObj "list" #[] 0)).update s.heap.objs.size (Obj.mapSeq (· ++ vs.toArray))).push (seqObj "list" vs.toArray 0)) v := fun v hv =>
    (hI v hv).keep fun b o hb _ => Heap.get?_push_of_some _ ((Heap.get?_update_ne _ _ _ _ (Nat.ne_of_lt (Heap.lt_size hb))).trans (Heap.get?_push_of_some _ hb))
  refine Calls.call_function_entry kind_sorted plain_sorted entry_sorted (args_sorted1 _) (wpAny_bind (m := checkCount "sorted" 1 1 _) (wpAny_pure (wpAny_bind (collect_list hl (wpAny_bind (wpAny_newList ?_ hz)) hz))))
  dsimp only
  rw [size1]
  refine wpAny_bind (wpAny_holding (wpAny_call_entry slot_list_sort ⟨_, mine, rfl⟩ entry_list_sort (list_sort_tups mine kept hz fun out hp => ⟨_, rfl, ?_⟩) (args_list_sort _)))
  exact wpAny_pure ⟨_, rfl, h out hp⟩
end

open PySem PySem.W PySem.Calls PyProof.Rows
set_option Elab.async false
set_option maxRecDepth 100000
section
variable {prog : Program} {w : World} {A : Around} {h : Heap} {env : Env} {K : Frag} {Q : Value → Heap → Prop}

/- unpacking -/
theorem Wp_Assign_T {elts k p' value pos} {Q : Flow → Heap → Prop} (H : Wp (model prog w) A (eval value env) (fun v h' => Wp (model prog w) A (assign (.Tuple elts k p') env v) (fun _ => Q .next) h') h)
    (hw : swappedStores [.Tuple elts k p'] value env = pure none)
    (hs : swapsWithSole [.Tuple elts k p'] value pos.line env = pure false) : Wp (model prog w) A (exec (.Assign [.Tuple elts k p'] value pos) env) Q h := fun s E e => by
  refine wpAny_Assign_stores (H.out e fun _ _ e q => ?_) hs hw
  exact q.out rfl fun _ _ e' q' => ⟨e.trans e', q'⟩
theorem Wp_unpack2 {x y : Str} {px py pos : Pos} {k : Nat} {l : Addr} {a b : Value} {Q : Unit → Heap → Prop} (hA : A.handled = none) (hl : h.IsList l [a, b].toArray)
    (H : ∀ h', Ext h h' → Wp (model prog w) A (storeName env x a) (fun _ h₁ => Wp (model prog w) A (storeName env y b) Q h₁) h') : Wp (model prog w) A (assign (.Tuple [.Name x px, .Name y py] k pos) env (.ref l)) Q h := fun s E e => by
  subst e
  rw [assign_Tuple]
  refine wpAny_bind (wpAny_standAt ?_)
  unfold unpack
  refine wpAny_bind (wpAny_holding (kun_itemsOf (items := [a, b].toArray) hA hl fun h' hx => ?_))
  show wpAny _ _ (do holding [b] (assign (.Name x px) env a); (do holding [] (assign (.Name y py) env b); pure ())) _ _ _
  refine wpAny_bind (wpAny_holding ?_)
  refine (Wp_assign_Name (H h' fun b o e => hx b o (Nat.ne_of_lt (Heap.lt_size e)) e)).out rfl fun _ _ e₁ q => ?_
  refine wpAny_bind (wpAny_holding ?_)
  exact (Wp_assign_Name q).out rfl fun _ _ e₂ q => wpAny_pure ⟨((Same.mk' s h' s.toks).trans e₁).trans e₂, q⟩
theorem Wp_letOwned_lst {elts : List Expr} {x1} {pos : Pos} {I l : Addr} {i : Nat} {v : Value} {Q : Unit → Heap → Prop} (hv : ∃ a, v = .ref a) (hit : IsAt h I (.liter l i)) (H : Q () h) :
    Wp (model prog w) A (letOwnedTupleGo (.Tuple elts x1 pos) (.ref I) v) Q h := fun s E e => by
  subst e
  obtain ⟨a, rfl⟩ := hv
  obtain ⟨o, ho, hc⟩ := hit
  exact wpAny_letOwnedTupleGo_listiter ⟨o, ho, hc⟩ ⟨Same.rfl' s, H⟩

/- insert, pop -/
theorem meth_insert : ListMeth "insert" "list.insert" := ⟨PySem.F.slot_list_insert, PySem.F.type_list_insert⟩
theorem meth_pop : ListMeth "pop" "list.pop" := ⟨PySem.F.slot_list_pop, PySem.F.type_list_pop⟩
theorem Wp_insert {g env' vars vals caps N N'} (S : St K g env' vars vals caps N h) {D : Addr} {xs : List Value} {k : Nat} {t : Tok} {v : Value} (hD : (D, .list xs) ∈ N) (p : LPut N D (.list (xs.take k ++ v :: xs.drop k)) N')
    (hk : k ≤ xs.length) (hz : xs.length < 2 ^ 20) (H : ∀ h', St K g env' vars vals caps N' h' → Q .none h') : Wp (model prog w) A (call (.builtin "list.insert") [.ref D, .int (k : Nat) t, v]) Q h := fun s E e => by
  subst e
  obtain ⟨o, ho, n, rfl⟩ := S.at hD
  have hz' : xs.length ≤ 1048576 := by have : (2 : Nat) ^ 20 = 1048576 := rfl; omega
  have hf : Builtin.List.listFitsIndex (k : Int) = true := by
    unfold Builtin.List.listFitsIndex
    rw [decide_eq_true (show -(2 ^ 63 : Int) ≤ k by omega), decide_eq_true (show (k : Int) < 2 ^ 63 by omega)]; rfl
  have hc : ¬ (!Builtin.List.listFitsIndex (k : Int)) = true := by rw [hf]; exact Bool.false_ne_true
  have hs1 : xs.toArray.size ≤ sizeLine := by rw [List.size_toArray, sizeLine_eq]; omega
  have h0 : (0 : Int) ≤ k := by omega
  have hkk : (k : Int).toNat = k := by omega
  generalize (k : Int) = x at hc h0 hkk ⊢
  refine call_meets PySem.F.slot_list_insert ⟨_, ho, rfl⟩ PySem.F.entry_list_insert (PySem.F.args_list_insert_3 _ _ _) (PySem.AutoSeq1.list_insert_list_int_val_1 D _ n x t v hc hs1) ⟨ho, Same.mk' s _ s.toks, H _ (S.upd p (Heap.SameBut.update ..).extBut ?_)⟩
  have q := get?_update_seq ho fun xs => have k' := if x < 0 then (x + (xs.size : Int)).toNat else min x.toNat xs.size; (xs.extract 0 k').push v ++ xs.extract k'
  have e : (have k' := if x < 0 then (x + (xs.toArray.size : Int)).toNat else min x.toNat xs.toArray.size; (xs.toArray.extract 0 k').push v ++ xs.toArray.extract k') = (xs.take k ++ v :: xs.drop k).toArray := by
    show (xs.toArray.extract 0 (if x < 0 then (x + (xs.toArray.size : Int)).toNat else min x.toNat xs.toArray.size)).push v ++ xs.toArray.extract (if x < 0 then (x + (xs.toArray.size : Int)).toNat else min x.toNat xs.toArray.size) = _
    rw [if_neg (by omega), List.size_toArray, show min x.toNat xs.length = k by omega]
    apply Array.toList_inj.mp
    simp
    exact List.take_of_length_le (by simp)
  rw [e] at q
  exact ⟨_, q, _, rfl⟩
theorem Wp_pop {g env' vars vals caps N N'} (S : St K g env' vars vals caps N h) {D : Addr} {xs : List Value} {v : Value} (hD : (D, .list (xs ++ [v])) ∈ N) (p : LPut N D (.list xs) N')
    (hz : xs.length < 2 ^ 20) (H : ∀ h', St K g env' vars vals caps N' h' → Q v h') : Wp (model prog w) A (call (.builtin "list.pop") [.ref D]) Q h := fun s E e => by
  subst e
  obtain ⟨o, ho, n, rfl⟩ := S.at hD
  have hk : (xs ++ [v]).toArray.size - 1 = xs.length := by rw [List.size_toArray, List.length_append]; rfl
  refine call_meets PySem.F.slot_list_pop ⟨_, ho, rfl⟩ PySem.F.entry_list_pop (PySem.F.args_list_pop_1 _) (PySem.MeetsSeq.list_pop_last D _ n v (by rw [hk]; simp) (by rw [List.size_toArray, List.length_append, sizeLine_eq]; simp; omega)) ⟨ho, Same.mk' s _ s.toks, H _ (S.upd p (Heap.SameBut.update ..).extBut ?_)⟩
  have q := get?_update_seq ho fun ys => ys.eraseIdxIfInBounds ((xs ++ [v]).toArray.size - 1)
  have e : (xs ++ [v]).toArray.eraseIdxIfInBounds ((xs ++ [v]).toArray.size - 1) = xs.toArray := by
    rw [hk]
    simp [Array.eraseIdxIfInBounds]
    rw [List.eraseIdx_append_of_length_le (Nat.le_refl _)]; simp
  rw [e] at q
  exact ⟨_, q, _, rfl⟩
/- min, max -/
theorem Wp_min2 {a b : Int} {t u : Tok} (hA : A.handled = none) (H : ∀ t h', Ext h h' → Q (.int (min a b) t) h') : Wp (model prog w) A (call (.builtin "min") [.int a t, .int b u]) Q h := fun s E e => by
  subst e
  refine min_two_ints hA fun h' tk hx => ⟨Same.mk' s h' tk, ?_⟩
  split
  · rename_i q; have := H u h' hx; rwa [show min a b = b by omega] at this
  · rename_i q; have := H t h' hx; rwa [show min a b = a by omega] at this
theorem Wp_max2 {a b : Int} {t u : Tok} (hA : A.handled = none) (H : ∀ t h', Ext h h' → Q (.int (max a b) t) h') : Wp (model prog w) A (call (.builtin "max") [.int a t, .int b u]) Q h := fun s E e => by
  subst e
  refine max_two_ints hA fun h' tk hx => ⟨Same.mk' s h' tk, ?_⟩
  split
  · rename_i q; have := H u h' hx; rwa [show max a b = b by omega] at this
  · rename_i q; have := H t h' hx; rwa [show max a b = a by omega] at this

/- rows of ints -/
def RowL (h : Heap) (ds : List Int) (v : Value) : Prop := ∃ a ys, v = .ref a ∧ h.IsList a ys.toArray ∧ IntsAre ys ds
def RowT (h : Heap) (ds : List Int) (v : Value) : Prop := ∃ a ys, v = .ref a ∧ IsAt h a (.tup ys) ∧ IntsAre ys ds
theorem RowL.ext {h h' : Heap} {ds v} (x : RowL h ds v) (e : Ext h h') : RowL h' ds v := let ⟨a, ys, p, q, r⟩ := x; ⟨a, ys, p, isListExt q e, r⟩
theorem RowT.ext {h h' : Heap} {ds v} (x : RowT h ds v) (e : Ext h h') : RowT h' ds v := let ⟨a, ys, p, q, r⟩ := x; ⟨a, ys, p, q.ext e, r⟩
abbrev RowsL' (h : Heap) := Paired (RowL h)
abbrev RowsT (h : Heap) := Paired (RowT h)
theorem pr_imp {α β : Type} {F G : α → β → Prop} (k : ∀ a b, F a b → G a b) : ∀ {l₁ : List α} {l₂ : List β}, Paired F l₁ l₂ → Paired G l₁ l₂
  | _, _, .nil => .nil
  | _, _, .cons a r => .cons (k _ _ a) (pr_imp k r)
theorem pr_len {α β : Type} {F : α → β → Prop} : ∀ {l₁ : List α} {l₂ : List β}, Paired F l₁ l₂ → l₁.length = l₂.length
  | _, _, .nil => rfl
  | _, _, .cons _ r => by simp [pr_len r]
theorem pr_get {α β : Type} {F : α → β → Prop} : ∀ {l₁ : List α} {l₂ : List β}, Paired F l₁ l₂ → ∀ (i : Nat) (b : β), l₂[i]? = some b → ∃ a, l₁[i]? = some a ∧ F a b
  | _, _, .nil, i, b, h => by simp at h
  | _, _, .cons x r, 0, b, h => by simp at h; subst h; exact ⟨_, rfl, x⟩
  | _, _, .cons x r, i + 1, b, h => by simp at h; obtain ⟨a, p, q⟩ := pr_get r i b h; exact ⟨a, by simpa using p, q⟩
theorem pr_get' {α β : Type} {F : α → β → Prop} : ∀ {l₁ : List α} {l₂ : List β}, Paired F l₁ l₂ → ∀ (i : Nat) (a : α), l₁[i]? = some a → ∃ b, l₂[i]? = some b ∧ F a b
  | _, _, .nil, i, b, h => by simp at h
  | _, _, .cons x r, 0, b, h => by simp at h; subst h; exact ⟨_, rfl, x⟩
  | _, _, .cons x r, i + 1, b, h => by simp at h; obtain ⟨a, p, q⟩ := pr_get' r i b h; exact ⟨a, by simpa using p, q⟩
theorem pr_take {α β : Type} {F : α → β → Prop} : ∀ {l₁ : List α} {l₂ : List β} (n : Nat), Paired F l₁ l₂ → Paired F (l₁.take n) (l₂.take n)
  | _, _, 0, _ => .nil
  | _, _, _ + 1, .nil => .nil
  | _, _, n + 1, .cons a r => .cons a (pr_take n r)
theorem pr_drop {α β : Type} {F : α → β → Prop} : ∀ {l₁ : List α} {l₂ : List β} (n : Nat), Paired F l₁ l₂ → Paired F (l₁.drop n) (l₂.drop n)
  | _, _, 0, r => r
  | _, _, _ + 1, .nil => .nil
  | _, _, n + 1, .cons a r => pr_drop n r
theorem pr_ins {α β : Type} {F : α → β → Prop} {l₁ : List α} {l₂ : List β} {a : α} {b : β} (n : Nat) (r : Paired F l₁ l₂) (x : F a b) : Paired F (l₁.take n ++ a :: l₁.drop n) (l₂.take n ++ b :: l₂.drop n) :=
  Paired.append' (pr_take n r) (.cons x (pr_drop n r))
/-- a sublist by places -/
theorem pr_mem {α β : Type} {F : α → β → Prop} : ∀ {l₁ : List α} {l₂ : List β}, Paired F l₁ l₂ → ∀ b ∈ l₂, ∃ a ∈ l₁, F a b
  | _, _, .nil, b, h => (nomatch h)
  | _, _, .cons x r, b, h => by
    rcases List.mem_cons.mp h with rfl | h
    · exact ⟨_, .head _, x⟩
    · obtain ⟨a, p, q⟩ := pr_mem r b h; exact ⟨a, .tail _ p, q⟩
/-- the values may be permuted -/
theorem pr_perm {α β : Type} {F : α → β → Prop} {l₁ : List α} {l₂ m₂ : List β} (r : Paired F l₁ l₂) (p : l₂.Perm m₂) : ∃ m₁, l₁.Perm m₁ ∧ Paired F m₁ m₂ := by
  induction p generalizing l₁ with
  | nil => exact ⟨_, .refl _, r⟩
  | cons x _ ih => cases r with | cons a r => obtain ⟨m, p, q⟩ := ih r; exact ⟨_, .cons _ p, .cons a q⟩
  | swap x y l => cases r with | cons a r => cases r with | cons b r => exact ⟨_, .swap _ _ _, .cons b (.cons a r)⟩
  | trans _ _ ih1 ih2 => obtain ⟨m, p, q⟩ := ih1 r; obtain ⟨m', p', q'⟩ := ih2 q; exact ⟨m', p.trans p', q'⟩

def pInts (ds : List Int) : PyData := .list (ds.map PyData.int)
def pTup (ds : List Int) : PyData := .tuple (ds.map PyData.int)
theorem RowL.reads {h : Heap} {ds v} (x : RowL h ds v) : ∃ as, Reads h v (pInts ds) as := let ⟨_, _, p, q, r⟩ := x; ⟨_, p ▸ reads_list q r⟩
theorem RowT.reads {h : Heap} {ds v} (x : RowT h ds v) : ∃ as, Reads h v (pTup ds) as := by
  obtain ⟨a, ys, rfl, ⟨o, ho, n, e⟩, r⟩ := x
  exact ⟨_, .tuple ho (by rw [e]) (by rw [e]) (reads_ints r)⟩
theorem pr_reads {h : Heap} {F : List Int → Value → Prop} {f : List Int → PyData} (k : ∀ ds v, F ds v → ∃ as, Reads h v (f ds) as) : ∀ {dss vs}, Paired F dss vs → ∃ as, ReadsAll h vs (dss.map f) as
  | _, _, .nil => ⟨_, .nil⟩
  | _, _, .cons x r => let ⟨_, a⟩ := k _ _ x; let ⟨_, b⟩ := pr_reads k r; ⟨_, .cons a b⟩
theorem eqvAll_ints : ∀ (a b : List Int), PyData.eqvAll (a.map PyData.int) (b.map PyData.int) = decide (a = b)
  | [], [] => rfl
  | [], _ :: _ => rfl
  | _ :: _, [] => rfl
  | x :: a, y :: b => by
    show (PyData.eqv (.int x) (.int y) && PyData.eqvAll (a.map PyData.int) (b.map PyData.int)) = _
    rw [eqvAll_ints a b]
    show ((x == y) && _) = _
    by_cases e : x = y <;> simp [e]
theorem canLay_rows : ∀ (dss : List (List Int)), PyData.canLayAll0 (dss.map pInts) = true
  | [] => rfl
  | d :: r => by
    show (PyData.canLayAll0 (d.map PyData.int) && PyData.canLayAll0 (r.map pInts)) = true
    rw [ke_canLayAll0, canLay_rows r]; rfl
theorem canLay_tups : ∀ (dss : List (List Int)), PyData.canLayAll0 (dss.map pTup) = true
  | [] => rfl
  | d :: r => by
    show (PyData.canLayAll0 (d.map PyData.int) && PyData.canLayAll0 (r.map pTup)) = true
    rw [ke_canLayAll0, canLay_tups r]; rfl
theorem depth_ints (d : List Int) : (pInts d).depth = 1 := by show PyData.depthAll _ + 1 = 1; rw [ke_depthAll]
theorem depth_tup (d : List Int) : (pTup d).depth = 1 := by show PyData.depthAll _ + 1 = 1; rw [ke_depthAll]

/-- two tuples of ints -/
theorem Wp_ne_rowT {a b : Value} {n : Nat} {ds es : List Int} (hA : Ok A n) (ha : RowT h ds a) (hb : RowT h es b) (H : Q (.bool (!decide (ds = es))) h) : Wp (model prog w) A (compareOp .NotEq a b) Q h := fun s E e => by
  subst e
  obtain ⟨_, ra⟩ := ha.reads
  obtain ⟨_, rb⟩ := hb.reads
  refine SeqAt.compareNe_reads ra rb (ke_canLayAll0 ds) (ke_canLayAll0 es) ?_ ⟨Same.rfl' s, ?_⟩
  · have := hA.units
    rw [depth_tup, depth_tup]; omega
  · show Q (.bool (!PyData.eqvAll _ _)) _
    rw [eqvAll_ints]; exact H
/-- a list that holds rows, held against the empty list -/
theorem Wp_ne_nil {l b : Addr} {vs : List Value} {f : List Int → PyData} {dss : List (List Int)} {n : Nat} {as : List Addr} (hA : Ok A n) (hl : h.IsList l vs.toArray) (hb : h.IsList b ([] : List Value).toArray)
    (hr : ReadsAll h vs (dss.map f) as) (hc : PyData.canLayAll0 (dss.map f) = true) (H : Q (.bool (!dss.isEmpty)) h) : Wp (model prog w) A (compareOp .NotEq (.ref l) (.ref b)) Q h := fun s E e => by
  subst e
  obtain ⟨o, ho, hcl, m, hd⟩ := hl
  obtain ⟨o', ho', hcl', m', hd'⟩ := hb
  refine SeqAt.compareNe_reads (da := .list (dss.map f)) (db := .list []) (.list ho hcl hd hr) (.list ho' hcl' hd' .nil) hc rfl ?_ ⟨Same.rfl' s, ?_⟩
  · have := hA.units
    show A.units + min _ 1 < cLine
    omega
  · cases dss <;> exact H
theorem any_rows (dss : List (List Int)) (d : List Int) : ((dss.map pInts).any fun y => PyData.eqv y (pInts d)) = decide (d ∈ dss) := by
  induction dss with
  | nil => simp
  | cons n r ih =>
    rw [List.map_cons, List.any_cons, ih]
    have : PyData.eqv (pInts n) (pInts d) = decide (n = d) := eqvAll_ints n d
    rw [this]
    by_cases e : n = d
    · subst e; simp
    · have : d ≠ n := fun q => e q.symm
      simp [e, this]
theorem depthAll_rows : ∀ (dss : List (List Int)), PyData.depthAll (dss.map pInts) ≤ 1
  | [] => Nat.zero_le _
  | d :: r => by
    show max (pInts d).depth (PyData.depthAll (r.map pInts)) ≤ 1
    rw [depth_ints]; have := depthAll_rows r; omega
theorem Wp_notIn_rows {l : Addr} {vs : List Value} {dss : List (List Int)} {ds : List Int} {v : Value} {n : Nat} (hA : Ok A n) (hl : h.IsList l vs.toArray) (hr : RowsL' h dss vs) (hv : RowL h ds v) (H : Q (.bool (!decide (ds ∈ dss))) h) :
    Wp (model prog w) A (compareOp .NotIn v (.ref l)) Q h := fun s E e => by
  subst e
  obtain ⟨o, ho, hcl, m, hd⟩ := hl
  obtain ⟨_, rr⟩ := pr_reads (fun _ _ x => RowL.reads x) hr
  obtain ⟨_, rv⟩ := hv.reads
  refine SeqAt.notIn_list_reads (.list ho hcl hd rr) rv (canLay_rows dss) (ke_canLayAll0 ds) ?_ ⟨Same.rfl' s, by rw [any_rows]; exact H⟩
  have := hA.units
  rw [depth_ints]
  omega
theorem Wp_in_rowL {l : Addr} {ys : List Value} {ns : List Int} {i : Int} {t : Tok} {n : Nat} (hA : Ok A n) (ha : h.IsList l ys.toArray) (hi : IntsAre ys ns) (H : Q (.bool (decide (i ∈ ns))) h) :
    Wp (model prog w) A (compareOp .In (.int i t) (.ref l)) Q h := fun s E e => by
  subst e
  refine SeqAt.in_list_reads (reads_list ha hi) (.int i t) (ke_canLayAll0 ns) rfl ?_ ⟨Same.rfl' s, by rw [any_int]; exact H⟩
  have := hA.units
  rw [ke_depthAll]
  omega
theorem Wp_in_rowT {l : Addr} {ys : List Value} {ns : List Int} {i : Int} {t : Tok} {n : Nat} (hA : Ok A n) (ha : IsAt h l (.tup ys)) (hi : IntsAre ys ns) (H : Q (.bool (decide (i ∈ ns))) h) :
    Wp (model prog w) A (compareOp .In (.int i t) (.ref l)) Q h := fun s E e => by
  subst e
  obtain ⟨o, ho, m, q⟩ := ha
  refine SeqAt.in_tuple_reads (.tuple ho (by rw [q]) (by rw [q]) (reads_ints hi)) (.int i t) (ke_canLayAll0 ns) rfl ?_ ⟨Same.rfl' s, by rw [any_int]; exact H⟩
  have := hA.units
  rw [ke_depthAll]
  omega
theorem Wp_item_tuple {value slice : Expr} {l : Addr} {xs : List Value} {k : Int} {t : Tok} {x : Value} (hl : IsAt h l (.tup xs)) (h0 : 0 ≤ k) (hx : xs[k.toNat]? = some x) (hfit : k < 2 ^ 62) (H : Q x h)
    (hs : subscripted slice false (.ref l) (.int k t) = operate [.ref l, .int k t] (getItem (.ref l) (.int k t)) := by with_unfolding_all rfl) (hg : ∀ r, letTemporaryGo value (.ref l) r = pure () := by intro _; with_unfolding_all rfl) :
    Wp (model prog w) A (subscriptTail value slice (.ref l) (.int k t)) Q h := fun s E e => by
  subst e
  obtain ⟨o, ho, n, rfl⟩ := hl
  have hlt : k.toNat < xs.length := (List.getElem?_eq_some_iff.mp hx).1
  refine item_tupleL (j := k.toNat) ⟨_, ho, rfl, n, rfl⟩ (by omega) (by omega) ?_ hx ⟨Same.rfl' s, H⟩ hs (hg := hg)
  unfold seqIndex?
  simp; omega

/-- sorted of tuples of ints: the same, in some order -/
theorem Wp_sortedT {l : Addr} {vs : List Value} {dss : List (List Int)} (hl : h.IsList l vs.toArray) (hr : RowsT h dss vs) (hp : ∀ ds ∈ dss, ds ≠ []) (hz : vs.length ≤ sizeLine)
    (H : ∀ a h' ys es, Fresh h a (.list ys) h' → dss.Perm es → RowsT h' es ys → Q (.ref a) h') : Wp (model prog w) A (call (.builtin "sorted") [.ref l]) Q h := fun s E e => by
  subst e
  refine sorted_tups hl (fun v hv => ?_) hz fun out hperm => ?_
  · obtain ⟨ds, hds, a, ys, rfl, ⟨o, ho, n, q⟩, hi⟩ := pr_mem hr v hv
    refine ⟨a, o, ys.toArray, n, rfl, ho, by rw [q], by rw [q], fun x hx => ?_, ?_⟩
    · have hx : x ∈ ys := by simpa using hx
      obtain ⟨i, hi', rfl⟩ := List.getElem_of_mem hx
      obtain ⟨t, ht⟩ := intsAt hi (i := i) (by rw [← hi.length]; exact hi')
      rw [List.getElem?_eq_getElem hi'] at ht
      exact ⟨_, _, Option.some.inj ht⟩
    · have h1 := hi.length
      have h2 := hp ds hds
      have : 0 < ds.length := List.length_pos_iff.mpr h2
      simp; omega
  · obtain ⟨es, hpe, hre⟩ := pr_perm hr hperm.symm
    refine ⟨Same.mk' s _ s.toks, H _ _ out.toList es ⟨sortedAll_ext _ _ _, ?_, sortedAll_at _ _ _⟩ hpe (pr_imp (fun _ _ x => x.ext (sortedAll_ext _ _ _)) hre)⟩
    exact Heap.get?_none_of_le (Nat.le_succ _)
end

open PySem PySem.W PySem.Calls PyProof.Rows
noncomputable abbrev K3 (w : World) : Frag := hd3.heap_39 w.params
theorem gv3_len {w} : GV (K3 w) "len" (.builtin "len") := .inr ⟨by rfl, by rfl, by decide⟩
theorem gv3_range {w} : GV (K3 w) "range" (.type "range") := .inr ⟨by rfl, by rfl, by decide⟩
theorem gv3_list {w} : GV (K3 w) "list" (.type "list") := .inr ⟨by rfl, by rfl, by decide⟩
theorem gv3_tuple {w} : GV (K3 w) "tuple" (.type "tuple") := .inr ⟨by rfl, by rfl, by decide⟩
theorem gv3_sum {w} : GV (K3 w) "sum" (.builtin "sum") := .inr ⟨by rfl, by rfl, by decide⟩
theorem gv3_sorted {w} : GV (K3 w) "sorted" (.builtin "sorted") := .inr ⟨by rfl, by rfl, by decide⟩
theorem gv3_min {w} : GV (K3 w) "min" (.builtin "min") := .inr ⟨by rfl, by rfl, by decide⟩
theorem gv3_max {w} : GV (K3 w) "max" (.builtin "max") := .inr ⟨by rfl, by rfl, by decide⟩
theorem gv3_abs {w} : GV (K3 w) "abs" (.builtin "abs") := .inr ⟨by rfl, by rfl, by decide⟩
theorem gv3_br {w} : GV (K3 w) "bisect_right" (.ref 23) := .inl (by rfl)
theorem gv3_bl {w} : GV (K3 w) "bisect_left" (.ref 32) := .inl (by rfl)
theorem gv3_first {w} : GV (K3 w) "_law_first" (.ref 39) := .inl (by rfl)
theorem gv3_ineq {w} : GV (K3 w) "_law_inequalities" (.ref 44) := .inl (by rfl)
theorem gv3_joins {w} : GV (K3 w) "_law_joins" (.ref 49) := .inl (by rfl)
theorem gv3_ways {w} : GV (K3 w) "_law_all_ways" (.ref 54) := .inl (by rfl)
local macro_rules | `(tactic| walk_at "gv") => `(tactic| first | exact gv3_len | exact gv3_range | exact gv3_list | exact gv3_tuple | exact gv3_sum | exact gv3_sorted | exact gv3_min | exact gv3_max | exact gv3_abs | exact gv3_br | exact gv3_bl | exact gv3_first | exact gv3_ineq | exact gv3_joins | exact gv3_ways)
local macro_rules | `(tactic| walk_at "m") => `(tactic| with_reducible (refine Wp_mid ?_; intro t))
set_option hygiene false in
local macro_rules | `(tactic| walk_at "m") => `(tactic| with_reducible first
  | refine Wp_Assign_T ?_ (by with_unfolding_all rfl) (by with_unfolding_all rfl)
  | (refine Wp_meth meth_insert ?_ (by with_unfolding_all rfl) (by with_unfolding_all rfl) (by with_unfolding_all rfl))
  | (refine Wp_meth meth_pop ?_ (by with_unfolding_all rfl) (by with_unfolding_all rfl) (by with_unfolding_all rfl)))

theorem bs_count {R : Nat → Bool} {c : Nat} : ∀ (n lo hi : Nat), hi - lo ≤ n → (∀ i, lo ≤ i → i < hi → (R i = true ↔ i < c)) → lo ≤ c → c ≤ hi → bs R lo hi = c
  | 0, lo, hi, hn, _, h1, h2 => by rw [bs_done (by omega)]; omega
  | n + 1, lo, hi, hn, h, h1, h2 => by
    by_cases q : lo < hi
    · have hm := h ((lo + hi) / 2) (by omega) (by omega)
      cases r : R ((lo + hi) / 2) with
      | true =>
        have := hm.mp r
        rw [bs_right q r]
        exact bs_count n _ _ (by omega) (fun i a b => h i (by omega) b) (by omega) h2
      | false =>
        have : ¬ (lo + hi) / 2 < c := fun x => by rw [hm.mpr x] at r; cases r
        rw [bs_left q r]
        exact bs_count n _ _ (by omega) (fun i a b => h i a (by omega)) h1 (by omega)
    · rw [bs_done q]; omega

open PySem PySem.W PySem.Calls PyProof.Rows
set_option Elab.async false
set_option maxRecDepth 100000


theorem bl3 {prog w} {A : Around} {h₀ : Heap} {a : Addr} {xs : List Value} {ns : List Int} {x : Int} {t1 t2 t3 : Tok} {lo hi : Nat} {Q : Value → Heap → Prop}
    (wd : Wd (K3 w) h₀) (hA : Ok A 2) (hl : h₀.IsList a xs.toArray) (hx : IntsAre xs ns) (hle : hi ≤ ns.length) (hlen : ns.length < 2 ^ 30)
    (H : ∀ t h', Ext h₀ h' → Q (.int (bs (fun i => decide (ns.getD i 0 < x)) lo hi) t) h') :
    Wp (model prog w) A (call (.ref 32) [.ref a, .int x t1, .int lo t2, .int hi t3] []) Q h₀ := by
  refine Wp_enter (K := K3 w) ["a", "x", "lo", "hi", "key", "mid"] [("a", .ref a), ("x", .int x t1), ("lo", .int lo t2), ("hi", .int hi t3), ("key", .none)] [some (.ref a), some (.int x t1), some (.int lo t2), some (.int hi t3), some .none, none]
    wd (Ext.refl h₀) (N := []) (by simp) (by simp) hA (by rfl) (by rfl) (fun S => by rfl) (by rfl) (by rfl) (by rfl) (by decide) ?_
  intro e h hsc hext hno hA' S
  repeat walk_at "m"
  refine Cp_while (fun n g vals N => ∃ lo' hi' : Nat, ∃ l r tl th om, l = (lo' : Int) ∧ r = (hi' : Int) ∧ n = hi' - lo' ∧ hi' ≤ hi ∧ bs (fun i => decide (ns.getD i 0 < x)) lo' hi' = bs (fun i => decide (ns.getD i 0 < x)) lo hi ∧ h₀ = g ∧ N = [] ∧
    vals = [some (.ref a), some (.int x t1), some (.int l tl), some (.int r th), some .none, om]) S ⟨lo, hi, _, _, _, _, _, rfl, rfl, rfl, Nat.le_refl _, rfl, rfl, rfl, rfl⟩ ?_
  clear S
  rintro n g vals N h ⟨lo', hi', l, r, tl, th, om, rfl, rfl, rfl, hh, hbs, rfl, rfl, rfl⟩ S
  repeat walk_at "m"
  refine ⟨fun hb => ?_, fun hb => ?_⟩
  · have hlt : lo' < hi' := by simpa using hb
    repeat walk_at "m"
    obtain ⟨tv, hv⟩ := intsAt hx (i := (lo' + hi') / 2) (by omega)
    refine Wp_item_list (isListExt hl S.keep) (by omega) hv (by omega) ?_
    repeat walk_at "m"
    refine Wp_split (fun hc => ?_) (fun hc => ?_)
    · repeat walk_at "m"
      exact ⟨_, h₀, _, [], by omega, ⟨(lo' + hi') / 2 + 1, hi', _, _, _, _, _, by omega, rfl, rfl, hh, by rw [← hbs, bs_right hlt hc], rfl, rfl, rfl⟩, S⟩
    · repeat walk_at "m"
      exact ⟨_, h₀, _, [], by omega, ⟨lo', (lo' + hi') / 2, _, _, _, _, _, rfl, rfl, rfl, by omega, by rw [← hbs, bs_left hlt hc], rfl, rfl, rfl⟩, S⟩
  · have hlt : ¬ lo' < hi' := by simpa using hb
    repeat walk_at "m"
    rw [bs_done hlt] at hbs
    subst hbs
    exact H _ _ S.keep

set_option Elab.async false

/- the graph law, plain: nodes are numbers, a graph is a list of pairs -/
def degE (E : List (Nat × Nat)) (k : Nat) : Nat := (E.filter fun e => e.1 == k || e.2 == k).length
def rowP (n i : Nat) : List (Nat × Nat) := (List.range (n - (i + 1))).map fun t => (i, i + 1 + t)
def pairsTo (n i j : Nat) : List (Nat × Nat) := (List.range i).flatMap (rowP n) ++ (List.range j).map fun t => (i, i + 1 + t)
def allPairs (n : Nat) : List (Nat × Nat) := (List.range n).flatMap (rowP n)
def Graphical (d : List Nat) : Prop := ∃ E, E.Sublist (allPairs d.length) ∧ ∀ k, k < d.length → degE E k = d.getD k 0

theorem degE_append (E F : List (Nat × Nat)) (k : Nat) : degE (E ++ F) k = degE E k + degE F k := by
  unfold degE; rw [List.filter_append, List.length_append]
theorem degE_one (i j k : Nat) : degE [(i, j)] k = if k = i ∨ k = j then 1 else 0 := by
  unfold degE
  by_cases h : k = i ∨ k = j
  · rw [if_pos h, List.filter_cons_of_pos (by simp; rcases h with h | h <;> simp [h])]; rfl
  · rw [if_neg h, List.filter_cons_of_neg (by simp only [not_or] at h; simp; exact ⟨fun e => h.1 e.symm, fun e => h.2 e.symm⟩)]; rfl

theorem pairsTo_zero (n : Nat) : pairsTo n 0 0 = [] := rfl
theorem pairsTo_succ (n i j : Nat) : pairsTo n i (j + 1) = pairsTo n i j ++ [(i, i + 1 + j)] := by
  unfold pairsTo
  rw [List.range_succ, List.map_append, ← List.append_assoc]; rfl
theorem pairsTo_next (n i : Nat) : pairsTo n (i + 1) 0 = pairsTo n i (n - (i + 1)) := by
  unfold pairsTo
  rw [List.range_succ, List.flatMap_append]
  simp [rowP]
theorem pairsTo_all (n : Nat) : pairsTo n n 0 = allPairs n := by
  unfold pairsTo allPairs; simp
theorem rowP_length (n i : Nat) : (rowP n i).length = n - (i + 1) := by unfold rowP; simp
theorem pairsTo_length (n i j : Nat) : (pairsTo n i j).length = ((List.range i).map fun t => n - (t + 1)).sum + j := by
  unfold pairsTo
  rw [List.length_append, List.length_flatMap, List.length_map, List.length_range]
  congr 3
  funext t; exact rowP_length n t
theorem pairs15 : ∀ n, n < 7 → ∀ i, i < 7 → ((List.range i).map fun t => n - (t + 1)).sum + (n - (i + 1)) ≤ 15 := by decide
theorem pairsTo_15 {n i j : Nat} (hn : n < 7) (hi : i < 7) (hj : j ≤ n - (i + 1)) : (pairsTo n i j).length ≤ 15 := by
  rw [pairsTo_length]; have := pairs15 n hn i hi; omega

/- the ways -/
def WayG (d : List Nat) (P : List (Nat × Nat)) (i₀ : Nat) (v : List Nat) : Prop :=
  v.length = d.length ∧ (∃ E, E.Sublist P ∧ ∀ k, k < d.length → v.getD k 0 + degE E k = d.getD k 0) ∧ ∀ i, i < i₀ → v.getD i 0 = 0
def sub2 (i j : Nat) (v : List Nat) : List Nat := (List.range v.length).map fun k => if k = i ∨ k = j then v.getD k 0 - 1 else v.getD k 0
theorem sub2_length (i j : Nat) (v : List Nat) : (sub2 i j v).length = v.length := by unfold sub2; simp
theorem getD_map_range (f : Nat → Nat) (n k : Nat) (h : k < n) : ((List.range n).map f).getD k 0 = f k := by
  simp [List.getD_eq_getElem?_getD, h]
theorem sub2_getD {i j k : Nat} {v : List Nat} (h : k < v.length) : (sub2 i j v).getD k 0 = if k = i ∨ k = j then v.getD k 0 - 1 else v.getD k 0 := getD_map_range _ _ _ h
theorem ext_getD {a b : List Nat} (hl : a.length = b.length) (h : ∀ k, k < a.length → a.getD k 0 = b.getD k 0) : a = b := by
  refine List.ext_getElem hl fun k h1 h2 => ?_
  have := h k h1
  simpa [List.getD_eq_getElem?_getD, h1, h2] using this
theorem way_nil {d v : List Nat} : WayG d [] 0 v ↔ v = d := by
  constructor
  · rintro ⟨hl, ⟨E, hE, h⟩, -⟩
    have : E = [] := List.sublist_nil.mp hE
    subst this
    exact ext_getD hl fun k hk => by have := h k (hl ▸ hk); simpa [degE] using this
  · rintro rfl
    exact ⟨rfl, ⟨[], .slnil, fun k _ => by simp [degE]⟩, fun i h => absurd h (Nat.not_lt_zero _)⟩
theorem sublist_snoc {α : Type} {E P : List α} {x : α} (h : E.Sublist (P ++ [x])) : E.Sublist P ∨ ∃ E', E'.Sublist P ∧ E = E' ++ [x] := by
  obtain ⟨E1, E2, rfl, h1, h2⟩ := List.sublist_append_iff.mp h
  cases E2 with
  | nil => left; simpa using h1
  | cons y r =>
    have hl := h2.length_le
    have : r = [] := by cases r with | nil => rfl | cons _ _ => simp at hl
    subst this
    have : y = x := by have := h2.subset (List.mem_singleton_self y); simpa using this
    subst this
    exact .inr ⟨E1, h1, rfl⟩
theorem way_step {d v' : List Nat} {P : List (Nat × Nat)} {i₀ i j : Nat} (hij : i ≠ j) (hi : i < d.length) (hj : j < d.length) (h0 : i₀ ≤ i) (h0' : i₀ ≤ j) :
    WayG d (P ++ [(i, j)]) i₀ v' ↔ WayG d P i₀ v' ∨ ∃ v, WayG d P i₀ v ∧ 0 < v.getD i 0 ∧ 0 < v.getD j 0 ∧ v' = sub2 i j v := by
  constructor
  · rintro ⟨hl, ⟨E, hE, h⟩, hz⟩
    rcases sublist_snoc hE with hE | ⟨E', hE', rfl⟩
    · exact .inl ⟨hl, ⟨E, hE, h⟩, hz⟩
    · right
      refine ⟨(List.range v'.length).map fun k => if k = i ∨ k = j then v'.getD k 0 + 1 else v'.getD k 0, ⟨by simpa using hl, ⟨E', hE', fun k hk => ?_⟩, fun k hk => ?_⟩, ?_, ?_, ?_⟩
      · have := h k hk
        rw [degE_append, degE_one] at this
        rw [getD_map_range _ _ _ (by omega)]
        split at this
        · rename_i q; rw [if_pos q]; omega
        · rename_i q; rw [if_neg q]; omega
      · rw [getD_map_range _ _ _ (by omega), if_neg (by omega)]; exact hz k hk
      · rw [getD_map_range _ _ _ (by omega), if_pos (.inl rfl)]; omega
      · rw [getD_map_range _ _ _ (by omega), if_pos (.inr rfl)]; omega
      · refine ext_getD (by rw [sub2_length]; simp) fun k hk => ?_
        rw [sub2_getD (by simpa using hk), getD_map_range _ _ _ hk]
        split <;> omega
  · rintro (⟨hl, ⟨E, hE, h⟩, hz⟩ | ⟨v, ⟨hl, ⟨E, hE, h⟩, hz⟩, p1, p2, rfl⟩)
    · exact ⟨hl, ⟨E, hE.trans (List.sublist_append_left _ _), h⟩, hz⟩
    · refine ⟨by rw [sub2_length]; exact hl, ⟨E ++ [(i, j)], hE.append (.refl _), fun k hk => ?_⟩, fun k hk => ?_⟩
      · have := h k hk
        rw [degE_append, degE_one, sub2_getD (by omega)]
        split
        · rename_i q
          have : 0 < v.getD k 0 := by rcases q with rfl | rfl <;> assumption
          omega
        · omega
      · rw [sub2_getD (by omega), if_neg (by omega)]; exact hz k hk
theorem way_zero {d v : List Nat} {P : List (Nat × Nat)} {i : Nat} : WayG d P (i + 1) v ↔ WayG d P i v ∧ v.getD i 0 = 0 := by
  constructor
  · rintro ⟨hl, h, hz⟩
    exact ⟨⟨hl, h, fun k hk => hz k (by omega)⟩, hz i (by omega)⟩
  · rintro ⟨⟨hl, h, hz⟩, h0⟩
    refine ⟨hl, h, fun k hk => ?_⟩
    by_cases e : k = i
    · subst e; exact h0
    · exact hz k (by omega)
theorem way_all {d : List Nat} : (∃ v, WayG d (allPairs d.length) d.length v) ↔ Graphical d := by
  constructor
  · rintro ⟨v, hl, ⟨E, hE, h⟩, hz⟩
    exact ⟨E, hE, fun k hk => by have := h k hk; rw [hz k hk] at this; omega⟩
  · rintro ⟨E, hE, h⟩
    refine ⟨List.replicate d.length 0, by simp, ⟨E, hE, fun k hk => ?_⟩, fun k hk => by simp [List.getD_eq_getElem?_getD, hk]⟩
    rw [h k hk]; simp [List.getD_eq_getElem?_getD, hk]

/-- neighbours that are alike may be dropped -/
theorem mem_dropAlike {α : Type} (l : List α) (x : α) (keep : Nat → Bool) (hk : ∀ k, k < l.length → (keep k = true ↔ k = 0 ∨ l[k - 1]? ≠ l[k]?)) :
    (∃ k, k < l.length ∧ keep k = true ∧ l[k]? = some x) ↔ x ∈ l := by
  constructor
  · rintro ⟨k, _, _, h⟩; exact List.mem_of_getElem? h
  · intro hx
    obtain ⟨k, hk', e⟩ : ∃ k, k < l.length ∧ l[k]? = some x := by
      obtain ⟨k, hk', e⟩ := List.getElem_of_mem hx
      exact ⟨k, hk', by rw [List.getElem?_eq_getElem hk', e]⟩
    clear hx
    induction k with
    | zero => exact ⟨0, hk', (hk 0 hk').mpr (.inl rfl), e⟩
    | succ k ih =>
      by_cases q : l[k]? = l[k + 1]?
      · exact ih (by omega) (q.trans e)
      · exact ⟨k + 1, hk', (hk _ hk').mpr (.inr q), e⟩

set_option Elab.async false

/-- Erdos and Gallai, over the degrees in any order -/
def egAt (r : List Nat) (k : Nat) : Bool :=
  decide ((r.drop (r.length - k)).sum ≤ k * (k - 1) + ((r.take ((r.take (r.length - k)).filter fun d => decide (d < k)).length).sum + k * (r.length - k - ((r.take (r.length - k)).filter fun d => decide (d < k)).length)))
def EGb (r : List Nat) : Bool := r.sum % 2 != 1 && (List.range r.length).all fun i => egAt r (i + 1)

theorem perm_of_map {α β : Type} {f : α → β} {m l' : List β} (h : m.Perm l') : ∀ {l : List α}, m = l.map f → ∃ σ, l.Perm σ ∧ l' = σ.map f := by
  induction h with
  | nil => intro l e; exact ⟨l, .refl _, e⟩
  | cons x _ ih =>
    intro l e
    cases l with
    | nil => cases e
    | cons a l => rw [List.map_cons] at e; injection e with e1 e2; obtain ⟨σ, p, q⟩ := ih e2; exact ⟨a :: σ, .cons _ p, by rw [List.map_cons, q, e1]⟩
  | swap x y t =>
    intro l e
    cases l with
    | nil => cases e
    | cons a l => cases l with
      | nil => rw [List.map_cons] at e; injection e with e1 e2; cases e2
      | cons b l => rw [List.map_cons, List.map_cons] at e; injection e with e1 e2; injection e2 with e2 e3; exact ⟨b :: a :: l, .swap _ _ _, by rw [List.map_cons, List.map_cons, e1, e2, e3]⟩
  | trans _ _ ih1 ih2 =>
    intro l e
    obtain ⟨σ, p, q⟩ := ih1 e
    obtain ⟨τ, p', q'⟩ := ih2 q
    exact ⟨τ, p.trans p', q'⟩

/- sums -/
def Sm (f : Nat → Nat) (l : List Nat) : Nat := (l.map f).sum
theorem Sm_nil (f) : Sm f [] = 0 := rfl
theorem Sm_cons (f a l) : Sm f (a :: l) = f a + Sm f l := by simp [Sm]
theorem Sm_append (f l m) : Sm f (l ++ m) = Sm f l + Sm f m := by simp [Sm]
theorem Sm_perm {f l m} (h : List.Perm l m) : Sm f l = Sm f m := (h.map f).sum_nat
theorem Sm_add (f g : Nat → Nat) : ∀ l, Sm (fun x => f x + g x) l = Sm f l + Sm g l
  | [] => rfl
  | a :: l => by rw [Sm_cons, Sm_cons, Sm_cons, Sm_add f g l]; omega
theorem Sm_le {f g : Nat → Nat} : ∀ {l}, (∀ x ∈ l, f x ≤ g x) → Sm f l ≤ Sm g l
  | [], _ => Nat.le_refl _
  | a :: l, h => by rw [Sm_cons, Sm_cons]; have := h a (.head _); have := Sm_le (l := l) fun x hx => h x (.tail _ hx); omega
theorem Sm_congr {f g : Nat → Nat} : ∀ {l}, (∀ x ∈ l, f x = g x) → Sm f l = Sm g l
  | [], _ => rfl
  | a :: l, h => by rw [Sm_cons, Sm_cons, h a (.head _), Sm_congr (l := l) fun x hx => h x (.tail _ hx)]
theorem Sm_const (c : Nat) : ∀ l, Sm (fun _ => c) l = c * l.length
  | [] => rfl
  | a :: l => by rw [Sm_cons, Sm_const c l, List.length_cons, Nat.mul_succ]; omega
theorem Sm_swap (f : Nat → Nat → Nat) : ∀ l m, Sm (fun u => Sm (f u) m) l = Sm (fun v => Sm (fun u => f u v) l) m
  | [], m => by rw [Sm_nil]; have := Sm_const 0 m; rw [Nat.zero_mul] at this; exact this.symm
  | a :: l, m => by
    rw [Sm_cons, Sm_swap f l m, ← Sm_add]
    exact Sm_congr fun v _ => (Sm_cons (fun u => f u v) a l).symm
theorem Sm_single {a c : Nat} : ∀ {l : List Nat}, l.Nodup → a ∈ l → Sm (fun v => if v = a then c else 0) l = c
  | b :: l, nd, h => by
    obtain ⟨n1, n2⟩ := List.nodup_cons.mp nd
    rw [Sm_cons]
    by_cases e : b = a
    · subst e
      rw [if_pos rfl]
      have : Sm (fun v => if v = b then c else 0) l = Sm (fun _ => 0) l := Sm_congr fun x hx => by
        have : ¬ x = b := fun q => n1 (by rw [← q]; exact hx)
        rw [if_neg this]
      rw [this, Sm_const]; omega
    · rw [if_neg e, Sm_single n2 (by rcases List.mem_cons.mp h with h | h; exact absurd h.symm e; exact h)]; omega
/-- one summand is naught, none above one -/
theorem Sm_pred {f : Nat → Nat} {u : Nat} : ∀ {l}, u ∈ l → (∀ x, f x ≤ 1) → f u = 0 → Sm f l ≤ l.length - 1
  | a :: l, hu, h1, h0 => by
    rw [Sm_cons, List.length_cons]
    rcases List.mem_cons.mp hu with e | hu
    · subst e
      have := Sm_le (l := l) (f := f) (g := fun _ => 1) fun x _ => h1 x
      rw [Sm_const] at this; omega
    · have := Sm_pred hu h1 h0
      have := h1 a
      have : 0 < l.length := List.length_pos_of_mem hu
      omega

/- a graph by counts -/
def cnt (E : List (Nat × Nat)) (u v : Nat) : Nat := (E.filter fun e => e.1 == u && e.2 == v).length
def adj (E : List (Nat × Nat)) (u v : Nat) : Nat := cnt E u v + cnt E v u
theorem adj_symm (E u v) : adj E u v = adj E v u := Nat.add_comm _ _
theorem cnt_cons (e : Nat × Nat) (E u v) : cnt (e :: E) u v = (if e.1 = u ∧ e.2 = v then 1 else 0) + cnt E u v := by
  unfold cnt
  by_cases h : e.1 = u ∧ e.2 = v
  · rw [if_pos h, List.filter_cons_of_pos (by simp [h.1, h.2]), List.length_cons]; omega
  · rw [if_neg h, List.filter_cons_of_neg (by simpa using h)]; omega
theorem degE_cons (e : Nat × Nat) (E k) : degE (e :: E) k = (if k = e.1 ∨ k = e.2 then 1 else 0) + degE E k := by
  rw [show e :: E = [(e.1, e.2)] ++ E from rfl, degE_append, degE_one]
theorem cnt_pos {E : List (Nat × Nat)} {u v : Nat} (h : 0 < cnt E u v) : (u, v) ∈ E := by
  obtain ⟨e, he⟩ := List.exists_mem_of_length_pos h
  obtain ⟨h1, h2⟩ := List.mem_filter.mp he
  simp at h2
  have : e = (u, v) := Prod.ext h2.1 h2.2
  rwa [← this]
theorem cnt_le {E : List (Nat × Nat)} (nd : E.Nodup) (u v : Nat) : cnt E u v ≤ 1 := by
  induction E with
  | nil => exact Nat.zero_le _
  | cons e E ih =>
    obtain ⟨n1, n2⟩ := List.nodup_cons.mp nd
    rw [cnt_cons]
    split
    · rename_i q
      have : ¬ 0 < cnt E u v := fun p => n1 (by have := cnt_pos p; rwa [← q.1, ← q.2] at this)
      omega
    · have := ih n2; omega
structure Gr (n : Nat) (E : List (Nat × Nat)) : Prop where
  nd : E.Nodup
  lt : ∀ e ∈ E, e.1 < e.2 ∧ e.2 < n
theorem Gr.adj_le {n E} (G : Gr n E) (u v : Nat) : adj E u v ≤ 1 := by
  unfold adj
  have h1 := cnt_le G.nd u v
  have h2 := cnt_le G.nd v u
  by_cases p : 0 < cnt E u v
  · by_cases q : 0 < cnt E v u
    · have := (G.lt _ (cnt_pos p)).1
      have := (G.lt _ (cnt_pos q)).1
      simp at *; omega
    · omega
  · omega
theorem Gr.adj_self {n E} (G : Gr n E) (u : Nat) : adj E u u = 0 := by
  unfold adj
  have : ¬ 0 < cnt E u u := fun p => by have := (G.lt _ (cnt_pos p)).1; simp at this
  omega
theorem deg_adj {n : Nat} (k : Nat) : ∀ {E : List (Nat × Nat)}, (∀ e ∈ E, e.1 < e.2 ∧ e.2 < n) → degE E k = Sm (adj E k) (List.range n)
  | [], _ => by
    have : Sm (adj [] k) (List.range n) = Sm (fun _ => 0) (List.range n) := Sm_congr fun x _ => rfl
    rw [this, Sm_const]; simp [degE]
  | e :: E, h => by
    obtain ⟨h1, h2⟩ := h e (.head _)
    have hm : ∀ a, a < n → a ∈ List.range n := fun a ha => List.mem_range.mpr ha
    rw [degE_cons, deg_adj k (E := E) fun x hx => h x (.tail _ hx)]
    have : Sm (adj (e :: E) k) (List.range n) = Sm (fun v => ((if v = e.2 then (if e.1 = k then 1 else 0) else 0) + (if v = e.1 then (if e.2 = k then 1 else 0) else 0)) + adj E k v) (List.range n) := by
      refine Sm_congr fun v _ => ?_
      unfold adj
      rw [cnt_cons, cnt_cons]
      have a1 : (if e.1 = k ∧ e.2 = v then 1 else 0) = (if v = e.2 then (if e.1 = k then 1 else 0) else 0) := by
        have cm : (e.2 = v) = (v = e.2) := propext eq_comm; simp only [cm]; by_cases p : e.1 = k <;> by_cases q : v = e.2 <;> simp [p, q]
      have a2 : (if e.1 = v ∧ e.2 = k then 1 else 0) = (if v = e.1 then (if e.2 = k then 1 else 0) else 0) := by
        have cm : (e.1 = v) = (v = e.1) := propext eq_comm; simp only [cm]; by_cases p : e.2 = k <;> by_cases q : v = e.1 <;> simp [p, q]
      rw [a1, a2]; omega
    rw [this, Sm_add, Sm_add, Sm_single List.nodup_range (hm _ h2), Sm_single List.nodup_range (hm _ (by omega))]
    congr 1
    by_cases p : k = e.1
    · rw [if_pos (.inl p), if_pos p.symm, if_neg (by omega)]
    · by_cases q : k = e.2
      · rw [if_pos (.inr q), if_neg (by omega), if_pos q.symm]
      · rw [if_neg (by omega), if_neg (by omega), if_neg (by omega)]

theorem allPairs_lt {n : Nat} : ∀ e ∈ allPairs n, e.1 < e.2 ∧ e.2 < n := fun e he => by
  obtain ⟨i, hi, he⟩ := List.mem_flatMap.mp he
  obtain ⟨t, ht, rfl⟩ := List.mem_map.mp he
  have := List.mem_range.mp hi
  have := List.mem_range.mp ht
  simp only
  omega
theorem allPairs_nodup (n : Nat) : (allPairs n).Nodup := by
  unfold allPairs
  refine List.pairwise_flatMap.mpr ⟨fun i _ => ?_, ?_⟩
  · unfold rowP
    refine List.pairwise_map.mpr (List.pairwise_lt_range.imp fun {a b} h e => ?_)
    have := congrArg Prod.snd e
    simp only at this; omega
  · refine List.pairwise_lt_range.imp fun {a b} h x hx y hy e => ?_
    obtain ⟨t, _, rfl⟩ := List.mem_map.mp hx
    obtain ⟨u, _, rfl⟩ := List.mem_map.mp hy
    have := congrArg Prod.fst e
    simp only at this; omega
theorem mem_allPairs {n i j : Nat} (h : i < j) (hj : j < n) : (i, j) ∈ allPairs n := by
  refine List.mem_flatMap.mpr ⟨i, List.mem_range.mpr (by omega), List.mem_map.mpr ⟨j - (i + 1), List.mem_range.mpr (by omega), ?_⟩⟩
  congr 1; omega
theorem gr_of_sub {n : Nat} {E : List (Nat × Nat)} (h : E.Sublist (allPairs n)) : Gr n E := ⟨(allPairs_nodup n).sublist h, fun e he => allPairs_lt e (h.subset he)⟩
/-- a graph in any order, held among all pairs -/
theorem Gr.graphical {d : List Nat} {E : List (Nat × Nat)} (G : Gr d.length E) (h : ∀ k, k < d.length → degE E k = d.getD k 0) : Graphical d := by
  refine ⟨(allPairs d.length).filter (fun e => decide (e ∈ E)), List.filter_sublist, fun k hk => ?_⟩
  have hp : ((allPairs d.length).filter (fun e => decide (e ∈ E))).Perm E := by
    refine (List.perm_ext_iff_of_nodup ((allPairs_nodup _).sublist List.filter_sublist) G.nd).mpr fun e => ?_
    rw [List.mem_filter, decide_eq_true_eq]
    exact ⟨fun h => h.2, fun h => ⟨mem_allPairs (G.lt e h).1 (G.lt e h).2, h⟩⟩
  rw [← h k hk]
  unfold degE
  exact (hp.filter _).length_eq

/- the two halves of the law that hold of any graph -/
theorem even_sum {n E} (G : Gr n E) : ∀ l, (Sm (fun u => Sm (adj E u) l) l) % 2 = 0
  | [] => rfl
  | a :: l => by
    have : Sm (fun u => Sm (adj E u) (a :: l)) (a :: l) = Sm (adj E a) l + (Sm (fun u => adj E a u) l + Sm (fun u => Sm (adj E u) l) l) := by
      have e : Sm (fun u => Sm (adj E u) (a :: l)) l = Sm (fun u => adj E a u) l + Sm (fun u => Sm (adj E u) l) l := by
        rw [← Sm_add]
        refine Sm_congr fun u _ => ?_
        show Sm (adj E u) (a :: l) = adj E a u + Sm (adj E u) l
        rw [Sm_cons, adj_symm]
      rw [Sm_cons, Sm_cons, G.adj_self, Nat.zero_add, e]
    have ih := even_sum G l
    rw [this]
    show (Sm (adj E a) l + (Sm (adj E a) l + _)) % 2 = 0
    omega
theorem Sm_cut {g d : Nat → Nat} {k : Nat} : ∀ (T : List Nat) (p : Nat), (∀ v ∈ T, g v ≤ d v) → (∀ v ∈ T, g v ≤ k) → Sm g T ≤ ((T.map d).take p).sum + k * (T.length - p)
  | [], p, _, _ => Nat.zero_le _
  | a :: T, 0, h1, h2 => by
    have := Sm_le (l := a :: T) (g := fun _ => k) h2
    rw [Sm_const] at this
    simpa using this
  | a :: T, p + 1, h1, h2 => by
    have := Sm_cut T p (fun v hv => h1 v (.tail _ hv)) (fun v hv => h2 v (.tail _ hv))
    have := h1 a (.head _)
    rw [Sm_cons, List.map_cons, List.take_succ_cons, List.sum_cons, List.length_cons, show T.length + 1 - (p + 1) = T.length - p by omega]
    omega
theorem graphical_eg {d r : List Nat} (hG : Graphical d) (hr : r.Perm d) : EGb r = true := by
  obtain ⟨E, hE, hd⟩ := hG
  have G := gr_of_sub hE
  have hdm : d = (List.range d.length).map fun k => d.getD k 0 := by
    refine List.ext_getElem (by simp) fun k h1 h2 => ?_
    simp [List.getD_eq_getElem?_getD, h1]
  obtain ⟨σ, hσ, hrσ⟩ := perm_of_map (f := fun k => d.getD k 0) (l := List.range d.length) (m := d) hr.symm hdm
  have hdeg : ∀ k, k ∈ σ → d.getD k 0 = Sm (adj E k) σ := fun k hk => by
    have : k < d.length := List.mem_range.mp (hσ.mem_iff.mpr hk)
    rw [← hd k this, deg_adj k G.lt, Sm_perm hσ]
  have hndσ : σ.Nodup := hσ.nodup_iff.mp List.nodup_range
  have hlen : r.length = σ.length := by rw [hrσ, List.length_map]
  unfold EGb
  rw [Bool.and_eq_true]
  constructor
  · have : r.sum = Sm (fun u => Sm (adj E u) σ) σ := by
      rw [hrσ]
      exact Sm_congr hdeg
    rw [this]
    have := even_sum G σ
    rw [this]; rfl
  · rw [List.all_eq_true]
    intro i hi
    have hi := List.mem_range.mp hi
    generalize hk : i + 1 = k
    unfold egAt
    rw [decide_eq_true_eq]
    generalize hp : ((r.take (r.length - k)).filter fun d => decide (d < k)).length = p
    have hpl : p ≤ r.length - k := by rw [← hp]; exact Nat.le_trans (List.length_filter_le ..) (by rw [List.length_take]; omega)
    have hsp : σ = σ.take (r.length - k) ++ σ.drop (r.length - k) := (List.take_append_drop _ _).symm
    have hS : (σ.drop (r.length - k)).length = k := by rw [List.length_drop]; omega
    have hT : (σ.take (r.length - k)).length = r.length - k := by rw [List.length_take]; omega
    have hrd : r.drop (r.length - k) = (σ.drop (r.length - k)).map fun k => d.getD k 0 := by rw [List.map_drop, ← hrσ]
    have hrt : r.take p = ((σ.take (r.length - k)).map fun k => d.getD k 0).take p := by rw [List.map_take, ← hrσ, List.take_take, Nat.min_eq_left hpl]
    have mS : ∀ v ∈ σ.drop (r.length - k), v ∈ σ := fun v hv => List.mem_of_mem_drop hv
    have mT : ∀ v ∈ σ.take (r.length - k), v ∈ σ := fun v hv => List.mem_of_mem_take hv
    have hsplit : ∀ v, Sm (adj E v) σ = Sm (adj E v) (σ.take (r.length - k)) + Sm (adj E v) (σ.drop (r.length - k)) := fun v => by
      rw [← Sm_append, List.take_append_drop]
    generalize σ.take (r.length - k) = T at *
    generalize σ.drop (r.length - k) = U at *
    rw [hrd, hrt]
    have e1 : (U.map fun k => d.getD k 0).sum = Sm (fun u => Sm (adj E u) T) U + Sm (fun u => Sm (adj E u) U) U := by
      rw [← Sm_add]
      exact Sm_congr fun u hu => by rw [hdeg u (mS u hu), hsplit u]
    have e2 : Sm (fun u => Sm (adj E u) U) U ≤ k * (k - 1) := by
      have := Sm_le (l := U) (f := fun u => Sm (adj E u) U) (g := fun _ => k - 1) fun u hu => by
        have := Sm_pred (f := adj E u) hu (G.adj_le u) (G.adj_self u)
        rw [hS] at this; exact this
      rw [Sm_const, hS] at this
      rw [Nat.mul_comm k (k - 1)]; exact this
    have e3 : Sm (fun u => Sm (adj E u) T) U = Sm (fun v => Sm (adj E v) U) T := by
      rw [Sm_swap]
      exact Sm_congr fun v _ => Sm_congr fun u _ => adj_symm _ _ _
    have e4 := Sm_cut (g := fun v => Sm (adj E v) U) (d := fun k => d.getD k 0) (k := k) T p (fun v hv => by
        show Sm (adj E v) U ≤ d.getD v 0
        rw [hdeg v (mT v hv), hsplit v]; omega) (fun v _ => by
        have := Sm_le (l := U) (f := adj E v) (g := fun _ => 1) fun u _ => G.adj_le v u
        rw [Sm_const, hS] at this; show Sm (adj E v) U ≤ k; omega)
    rw [hT] at e4
    rw [e1, e3]
    omega

set_option Elab.async false

/- Havel and Hakimi, as the program does it -/
abbrev Row := List (Nat × Nat)
def placeR (R : Row) (d : Nat) : Nat := (R.filter fun x => decide (x.1 ≤ d)).length
def insR (R : Row) (x : Nat × Nat) : Row := R.take (placeR R x.1) ++ x :: R.drop (placeR R x.1)
def joinP (a b : Nat) : Nat × Nat := (min a b, max a b)
def back (node : Nat) : Row → List (Nat × Nat) → Row → Option (Row × List (Nat × Nat))
  | R, J, [] => some (R, J)
  | R, J, x :: t => if x.1 = 0 then none else back node (insR R (x.1 - 1, x.2)) (J ++ [joinP node x.2]) t
def hhR : Nat → Row → List (Nat × Nat) → Option (List (Nat × Nat))
  | 0, _, J => some J
  | f + 1, R, J => match R.getLast? with
    | none => some J
    | some x => if x.1 > R.dropLast.length then none else
      match back x.2 (R.dropLast.take (R.dropLast.length - x.1)) J (R.dropLast.drop (R.dropLast.length - x.1)) with
      | none => none
      | some (R', J') => hhR f R' J'
def startR (ds : List Nat) (i : Nat) : Row := (List.range i).foldl (fun R k => insR R (ds.getD k 0, k)) []
def joinsOf (ds : List Nat) : Option (List (Nat × Nat)) := hhR ds.length (startR ds ds.length) []

/- the degrees alone -/
def insD (l : List Nat) (d : Nat) : List Nat := l.take (l.filter fun x => decide (x ≤ d)).length ++ d :: l.drop (l.filter fun x => decide (x ≤ d)).length
def backD : List Nat → List Nat → Option (List Nat)
  | l, [] => some l
  | l, 0 :: _ => none
  | l, (d + 1) :: t => backD (insD l d) t
def hhD : Nat → List Nat → Bool
  | 0, _ => true
  | f + 1, l => match l.getLast? with
    | none => true
    | some x => if x > l.dropLast.length then false else
      match backD (l.dropLast.take (l.dropLast.length - x)) (l.dropLast.drop (l.dropLast.length - x)) with
      | none => false
      | some l' => hhD f l'

theorem insR_fst (R : Row) (x : Nat × Nat) : (insR R x).map (·.1) = insD (R.map (·.1)) x.1 := by
  have e : placeR R x.1 = ((R.map (·.1)).filter fun y => decide (y ≤ x.1)).length := by
    unfold placeR; rw [List.filter_map, List.length_map]; rfl
  unfold insR insD
  rw [List.map_append, List.map_take, List.map_cons, List.map_drop, e]
theorem back_fst (node : Nat) : ∀ (t R : Row) (J : List (Nat × Nat)), (back node R J t).map (fun p => p.1.map (·.1)) = backD (R.map (·.1)) (t.map (·.1))
  | [], R, J => rfl
  | (0, k) :: t, R, J => rfl
  | (d + 1, k) :: t, R, J => by
    show (back node (insR R (d + 1 - 1, k)) _ t).map _ = backD (insD (R.map (·.1)) d) (t.map (·.1))
    rw [back_fst node t, insR_fst]; rfl
theorem hhR_fst : ∀ (f : Nat) (R : Row) (J : List (Nat × Nat)), (hhR f R J).isSome = hhD f (R.map (·.1))
  | 0, R, J => rfl
  | f + 1, R, J => by
    unfold hhR hhD
    rw [List.getLast?_map]
    cases R.getLast? with
    | none => rfl
    | some x =>
      show (if x.1 > R.dropLast.length then none else _).isSome = if x.1 > (R.map (·.1)).dropLast.length then false else _
      rw [← List.map_dropLast, List.length_map]
      split
      · rfl
      · have := back_fst x.2 (R.dropLast.drop (R.dropLast.length - x.1)) (R.dropLast.take (R.dropLast.length - x.1)) J
        rw [← List.map_take, ← List.map_drop, ← this]
        cases back x.2 (R.dropLast.take (R.dropLast.length - x.1)) J (R.dropLast.drop (R.dropLast.length - x.1)) with
        | none => rfl
        | some p => exact hhR_fst f p.1 p.2
def startD (ds : List Nat) (i : Nat) : List Nat := (List.range i).foldl (fun l k => insD l (ds.getD k 0)) []
theorem startR_succ (ds : List Nat) (i : Nat) : startR ds (i + 1) = insR (startR ds i) (ds.getD i 0, i) := by
  unfold startR; rw [List.range_succ, List.foldl_append]; rfl

/- sorted rows -/
def Srt (R : Row) : Prop := R.Pairwise fun a b => a.1 ≤ b.1
theorem insR_perm (R : Row) (x : Nat × Nat) : (insR R x).Perm (x :: R) := by
  unfold insR
  refine List.perm_middle.trans (.cons _ ?_)
  rw [List.take_append_drop]
theorem insR_length (R : Row) (x : Nat × Nat) : (insR R x).length = R.length + 1 := (insR_perm R x).length_eq
theorem placeR_le (R : Row) (d : Nat) : placeR R d ≤ R.length := List.length_filter_le ..
/-- of a sorted row, those not above d stand first -/
theorem placeR_spec : ∀ {R : Row}, Srt R → ∀ d, (∀ i x, R[i]? = some x → (x.1 ≤ d ↔ i < placeR R d))
  | [], _, d, i, x, h => by simp at h
  | y :: R, hs, d, i, x, h => by
    obtain ⟨h1, h2⟩ := List.pairwise_cons.mp hs
    have ih := placeR_spec h2 d
    by_cases q : y.1 ≤ d
    · have e : placeR (y :: R) d = placeR R d + 1 := by unfold placeR; rw [List.filter_cons_of_pos (by simpa using q)]; rfl
      rw [e]
      cases i with
      | zero => simp at h; subst h; simp [q]
      | succ i => have := ih i x (by simpa using h); omega
    · have e0 : R.filter (fun x => decide (x.1 ≤ d)) = [] := List.filter_eq_nil_iff.mpr fun z hz => by
        have := h1 z hz; simp; omega
      have e : placeR (y :: R) d = 0 := by unfold placeR; rw [List.filter_cons_of_neg (by simpa using q), e0]; rfl
      rw [e]
      cases i with
      | zero => simp at h; subst h; omega
      | succ i =>
        have := h1 x (List.mem_of_getElem? (by simpa using h))
        omega
theorem insR_srt {R : Row} (hs : Srt R) (x : Nat × Nat) : Srt (insR R x) := by
  have sp := placeR_spec hs x.1
  unfold insR
  refine List.pairwise_append.mpr ⟨hs.sublist (List.take_sublist _ _), List.pairwise_cons.mpr ⟨fun y hy => ?_, hs.sublist (List.drop_sublist _ _)⟩, fun a ha b hb => ?_⟩
  · obtain ⟨j, hj, e⟩ := List.getElem_of_mem hy
    rw [List.getElem_drop] at e
    have := sp (placeR R x.1 + j) y (by rw [← e]; exact List.getElem?_eq_getElem _)
    show x.1 ≤ y.1
    omega
  · have ha' : a.1 ≤ x.1 := by
      obtain ⟨j, hj, e⟩ := List.getElem_of_mem ha
      rw [List.getElem_take] at e
      have hj' : j < placeR R x.1 := by rw [List.length_take] at hj; omega
      exact (sp j a (by rw [← e]; exact List.getElem?_eq_getElem _)).mpr hj'
    rcases List.mem_cons.mp hb with rfl | hb
    · exact ha'
    · obtain ⟨j, hj, e⟩ := List.getElem_of_mem hb
      rw [List.getElem_drop] at e
      have := sp (placeR R x.1 + j) b (by rw [← e]; exact List.getElem?_eq_getElem _)
      show a.1 ≤ b.1
      omega
theorem startR_srt (ds : List Nat) : ∀ i, Srt (startR ds i)
  | 0 => .nil
  | i + 1 => by rw [startR_succ]; exact insR_srt (startR_srt ds i) _
theorem startR_perm (ds : List Nat) : ∀ i, (startR ds i).Perm ((List.range i).map fun k => (ds.getD k 0, k))
  | 0 => .refl _
  | i + 1 => by
    rw [startR_succ, List.range_succ, List.map_append]
    exact (insR_perm _ _).trans ((List.Perm.cons _ (startR_perm ds i)).trans (List.perm_append_comm (l₁ := [_])))
theorem startR_length (ds : List Nat) (i : Nat) : (startR ds i).length = i := by rw [(startR_perm ds i).length_eq]; simp
theorem back_srt (node : Nat) : ∀ (t R : Row) (J : List (Nat × Nat)) {R' J'}, Srt R → back node R J t = some (R', J') → Srt R'
  | [], R, J, R', J', hs, h => by simp [back] at h; rw [← h.1]; exact hs
  | x :: t, R, J, R', J', hs, h => by
    unfold back at h
    split at h
    · cases h
    · exact back_srt node t _ _ (insR_srt hs _) h
theorem back_length (node : Nat) : ∀ (t R : Row) (J : List (Nat × Nat)) {R' J'}, back node R J t = some (R', J') → R'.length = R.length + t.length
  | [], R, J, R', J', h => by simp [back] at h; rw [← h.1]; rfl
  | x :: t, R, J, R', J', h => by
    unfold back at h
    split at h
    · cases h
    · rw [back_length node t _ _ h, insR_length, List.length_cons]; omega

/- the joins are a graph -/
def nds (R : Row) : List Nat := R.map (·.2)
structure JI (ds : List Nat) (R : Row) (J : List (Nat × Nat)) : Prop where
  gr : Gr ds.length J
  nd : (nds R).Nodup
  lt : ∀ k ∈ nds R, k < ds.length
  out : ∀ e ∈ J, ¬ (e.1 ∈ nds R ∧ e.2 ∈ nds R)
  deg : ∀ x ∈ R, degE J x.2 + x.1 = ds.getD x.2 0
  oth : ∀ k, k < ds.length → k ∉ nds R → degE J k = ds.getD k 0
structure BI (ds : List Nat) (node : Nat) (R t : Row) (J : List (Nat × Nat)) : Prop where
  gr : Gr ds.length J
  nd : (node :: nds (R ++ t)).Nodup
  lt : ∀ k ∈ node :: nds (R ++ t), k < ds.length
  out : ∀ e ∈ J, ¬ (e.1 ∈ nds (R ++ t) ∧ e.2 ∈ nds (R ++ t))
  far : ∀ x ∈ t, joinP node x.2 ∉ J
  deg : ∀ x ∈ R ++ t, degE J x.2 + x.1 = ds.getD x.2 0
  own : degE J node + t.length = ds.getD node 0
  oth : ∀ k, k < ds.length → k ∉ nds (R ++ t) → k ≠ node → degE J k = ds.getD k 0
theorem degE_join (a b k : Nat) : degE [joinP a b] k = if k = a ∨ k = b then 1 else 0 := by
  unfold joinP
  rw [degE_one]
  by_cases h : k = a ∨ k = b
  · rw [if_pos h, if_pos (by omega)]
  · rw [if_neg h, if_neg (by omega)]
theorem joinP_inj {a b c : Nat} (h : joinP a b = joinP a c) : b = c := by
  unfold joinP at h
  have h1 := congrArg Prod.fst h
  have h2 := congrArg Prod.snd h
  simp only at h1 h2; omega
theorem BI.step {ds node R t J} {x : Nat × Nat} (B : BI ds node R (x :: t) J) (hx : x.1 ≠ 0) : BI ds node (insR R (x.1 - 1, x.2)) t (J ++ [joinP node x.2]) := by
  have hp : (nds (insR R (x.1 - 1, x.2) ++ t)).Perm (nds (R ++ x :: t)) := by
    have h1 := ((insR_perm R (x.1 - 1, x.2)).append_right t).map (·.2)
    have h2 := (List.perm_middle (l₁ := R) (a := x) (l₂ := t)).map (·.2)
    exact h1.trans h2.symm
  have hxm : x.2 ∈ nds (R ++ x :: t) := List.mem_map_of_mem (List.mem_append_right _ (.head _))
  have hne : node ≠ x.2 := fun e => (List.nodup_cons.mp B.nd).1 (e ▸ hxm)
  have hnd : (nds (R ++ x :: t)).Nodup := (List.nodup_cons.mp B.nd).2
  have hnode : node ∉ nds (R ++ x :: t) := (List.nodup_cons.mp B.nd).1
  have hother : ∀ y ∈ R ++ t, y.2 ≠ x.2 := fun y hy e => by
    have h2 := (List.perm_middle (l₁ := R) (a := x) (l₂ := t)).map (·.2)
    have := (h2.nodup_iff.mp hnd)
    rw [List.map_cons] at this
    exact (List.nodup_cons.mp this).1 (e ▸ List.mem_map_of_mem hy)
  have hsub : ∀ y ∈ R ++ t, y ∈ R ++ x :: t := fun y hy => by
    rcases List.mem_append.mp hy with h | h
    · exact List.mem_append_left _ h
    · exact List.mem_append_right _ (.tail _ h)
  have hyn : ∀ y ∈ R ++ x :: t, y.2 ≠ node := fun y hy e => hnode (e ▸ List.mem_map_of_mem hy)
  have hd : ∀ k, degE (J ++ [joinP node x.2]) k = degE J k + if k = node ∨ k = x.2 then 1 else 0 := fun k => by rw [degE_append, degE_join]
  refine ⟨⟨?_, ?_⟩, ?_, ?_, ?_, ?_, ?_, ?_, ?_⟩
  · refine List.nodup_append.mpr ⟨B.gr.nd, List.pairwise_singleton _ _, fun a ha b hb e => ?_⟩
    rw [List.mem_singleton.mp hb] at e
    exact B.far x (.head _) (e ▸ ha)
  · intro e he
    rcases List.mem_append.mp he with he | he
    · exact B.gr.lt e he
    · rw [List.mem_singleton.mp he]
      have h1 := B.lt node (.head _)
      have h2 := B.lt x.2 (.tail _ hxm)
      unfold joinP
      simp only; omega
  · exact ((hp.cons node).nodup_iff).mpr B.nd
  · exact fun k hk => B.lt k ((hp.cons node).mem_iff.mp hk)
  · intro e he h
    rw [hp.mem_iff, hp.mem_iff] at h
    rcases List.mem_append.mp he with he | he
    · exact B.out e he h
    · rw [List.mem_singleton.mp he] at h
      unfold joinP at h
      simp only at h
      rcases Nat.le_total node x.2 with q | q
      · rw [Nat.min_eq_left q] at h; exact hnode h.1
      · rw [Nat.max_eq_left q] at h; exact hnode h.2
  · intro y hy h
    rcases List.mem_append.mp h with h | h
    · exact B.far y (.tail _ hy) h
    · have := joinP_inj (List.mem_singleton.mp h)
      exact hother y (List.mem_append_right _ hy) this
  · intro y hy
    have hy : y = (x.1 - 1, x.2) ∨ y ∈ R ++ t := by
      rcases List.mem_append.mp hy with h | h
      · rcases List.mem_cons.mp ((insR_perm R _).mem_iff.mp h) with h | h
        · exact .inl h
        · exact .inr (List.mem_append_left _ h)
      · exact .inr (List.mem_append_right _ h)
    rcases hy with rfl | hy
    · rw [hd, if_pos (.inr rfl)]
      have := B.deg x (List.mem_append_right _ (.head _))
      simp only; omega
    · rw [hd, if_neg (fun q => q.elim (hyn y (hsub y hy)) (hother y hy))]
      exact B.deg y (hsub y hy)
  · rw [hd, if_pos (.inl rfl)]
    have := B.own
    rw [List.length_cons] at this; omega
  · intro k hk hn hkn
    have hn' : k ∉ nds (R ++ x :: t) := fun q => hn (hp.mem_iff.mpr q)
    rw [hd, if_neg (fun q => q.elim hkn fun q => hn' (q ▸ hxm))]
    exact B.oth k hk hn' hkn
theorem BI.done {ds node R J} (B : BI ds node R [] J) : JI ds R J := by
  have e : R ++ [] = R := List.append_nil R
  obtain ⟨gr, nd, lt, out, far, deg, own, oth⟩ := B
  rw [e] at nd lt out deg oth
  refine ⟨gr, (List.nodup_cons.mp nd).2, fun k hk => lt k (.tail _ hk), out, deg, fun k hk hn => ?_⟩
  by_cases q : k = node
  · subst q; simpa using own
  · exact oth k hk hn q
theorem back_inv {ds : List Nat} (node : Nat) : ∀ (t R : Row) (J : List (Nat × Nat)) {R' J'}, BI ds node R t J → back node R J t = some (R', J') → JI ds R' J'
  | [], R, J, R', J', B, h => by simp [back] at h; rw [← h.1, ← h.2]; exact B.done
  | x :: t, R, J, R', J', B, h => by
    unfold back at h
    split at h
    · cases h
    · rename_i q; exact back_inv node t _ _ (B.step q) h
theorem JI.take {ds J} {R : Row} {x : Nat × Nat} (I : JI ds (R ++ [x]) J) (hx : ¬ x.1 > R.length) : BI ds x.2 (R.take (R.length - x.1)) (R.drop (R.length - x.1)) J := by
  have hp : (x.2 :: nds R).Perm (nds (R ++ [x])) := by
    unfold nds; rw [List.map_append]; exact (List.perm_append_comm (l₁ := [x.2]))
  obtain ⟨gr, nd, lt, out, deg, oth⟩ := I
  have nd' := hp.nodup_iff.mpr nd
  refine ⟨gr, ?_, ?_, ?_, ?_, ?_, ?_, ?_⟩
  · rw [List.take_append_drop]; exact nd'
  · rw [List.take_append_drop]; exact fun k hk => lt k (hp.mem_iff.mp hk)
  · rw [List.take_append_drop]; exact fun e he h => out e he ⟨hp.mem_iff.mp (.tail _ h.1), hp.mem_iff.mp (.tail _ h.2)⟩
  · intro y hy h
    have hy : y.2 ∈ nds R := List.mem_map_of_mem (List.mem_of_mem_drop hy)
    refine out _ h ?_
    have h1 : x.2 ∈ nds (R ++ [x]) := hp.mem_iff.mp (.head _)
    have h2 : y.2 ∈ nds (R ++ [x]) := hp.mem_iff.mp (.tail _ hy)
    unfold joinP
    simp only
    rcases Nat.le_total x.2 y.2 with q | q
    · rw [Nat.min_eq_left q, Nat.max_eq_right q]; exact ⟨h1, h2⟩
    · rw [Nat.min_eq_right q, Nat.max_eq_left q]; exact ⟨h2, h1⟩
  · rw [List.take_append_drop]; exact fun y hy => deg y (List.mem_append_left _ hy)
  · have := deg x (List.mem_append_right _ (.head _))
    rw [List.length_drop]; omega
  · rw [List.take_append_drop]
    intro k hk hn hne
    exact oth k hk fun q => (List.mem_cons.mp (hp.mem_iff.mpr q)).elim hne hn
theorem hhR_inv {ds : List Nat} : ∀ (f : Nat) (R : Row) (J : List (Nat × Nat)) {J'}, R.length ≤ f → JI ds R J → hhR f R J = some J' → JI ds [] J'
  | 0, R, J, J', hf, I, h => by
    have : R = [] := List.length_eq_zero_iff.mp (by omega)
    subst this
    simp [hhR] at h; rw [← h]; exact I
  | f + 1, R, J, J', hf, I, h => by
    unfold hhR at h
    cases q : R.getLast? with
    | none =>
      rw [q] at h
      have : R = [] := by simpa using q
      subst this
      simp at h; rw [← h]; exact I
    | some x =>
      rw [q] at h
      obtain ⟨R0, rfl⟩ : ∃ R0, R = R0 ++ [x] := List.getLast?_eq_some_iff.mp q
      simp only [List.dropLast_concat] at h
      split at h
      · cases h
      · rename_i hx
        split at h
        · cases h
        · rename_i R' J'' hb
          have hl := back_length _ _ _ _ hb
          rw [List.length_take, List.length_drop] at hl
          rw [List.length_append, List.length_singleton] at hf
          exact hhR_inv f R' J'' (by omega) (back_inv _ _ _ _ (I.take hx) hb) h
theorem start_inv (ds : List Nat) : JI ds (startR ds ds.length) [] := by
  have hp := startR_perm ds ds.length
  have hn : (nds (startR ds ds.length)).Perm (List.range ds.length) := by
    have := hp.map (·.2)
    rw [List.map_map] at this
    exact this.trans (.of_eq (List.map_id' _))
  refine ⟨⟨.nil, nofun⟩, hn.nodup_iff.mpr List.nodup_range, fun k hk => List.mem_range.mp (hn.mem_iff.mp hk), nofun, fun x hx => ?_, fun k hk hn' => absurd (hn.mem_iff.mpr (List.mem_range.mpr hk)) hn'⟩
  obtain ⟨k, hk, rfl⟩ := List.mem_map.mp (hp.mem_iff.mp hx)
  simp [degE]
theorem joins_graph {ds : List Nat} {J : List (Nat × Nat)} (h : joinsOf ds = some J) : Gr ds.length J ∧ ∀ k, k < ds.length → degE J k = ds.getD k 0 := by
  have I := hhR_inv _ _ _ (Nat.le_of_eq (startR_length ds _)) (start_inv ds) h
  exact ⟨I.gr, fun k hk => I.oth k hk (by simp [nds])⟩

/- the finite check -/
def srt : Nat → Nat → Nat → List (List Nat)
  | 0, _, _ => [[]]
  | n + 1, lo, m => (List.range (m - lo)).flatMap fun t => (srt n (lo + t) m).map fun l => (lo + t) :: l
theorem mem_srt : ∀ (l : List Nat) (lo m : Nat), l.Pairwise (· ≤ ·) → (∀ x ∈ l, lo ≤ x ∧ x < m) → l ∈ srt l.length lo m
  | [], lo, m, _, _ => .head _
  | a :: l, lo, m, hs, hm => by
    obtain ⟨h1, h2⟩ := List.pairwise_cons.mp hs
    have ha := hm a (.head _)
    refine List.mem_flatMap.mpr ⟨a - lo, List.mem_range.mpr (by omega), List.mem_map.mpr ⟨l, ?_, by congr 1; omega⟩⟩
    rw [show lo + (a - lo) = a by omega]
    exact mem_srt l a m h2 fun x hx => ⟨h1 x hx, (hm x (.tail _ hx)).2⟩
theorem chk1 : (srt 1 0 1).all (fun l => !EGb l || hhD 1 l) = true := by decide +kernel
theorem chk2 : (srt 2 0 2).all (fun l => !EGb l || hhD 2 l) = true := by decide +kernel
theorem chk3 : (srt 3 0 3).all (fun l => !EGb l || hhD 3 l) = true := by decide +kernel
theorem chk4 : (srt 4 0 4).all (fun l => !EGb l || hhD 4 l) = true := by decide +kernel
theorem chk5 : (srt 5 0 5).all (fun l => !EGb l || hhD 5 l) = true := by decide +kernel
theorem chk6 : (srt 6 0 6).all (fun l => !EGb l || hhD 6 l) = true := by decide +kernel

set_option Elab.async false

theorem filt_take : ∀ {l : List Nat}, l.Pairwise (· ≤ ·) → ∀ k, l.take (l.filter fun d => decide (d < k)).length = l.filter fun d => decide (d < k)
  | [], _, _ => rfl
  | a :: l, hs, k => by
    obtain ⟨h1, h2⟩ := List.pairwise_cons.mp hs
    by_cases q : a < k
    · rw [List.filter_cons_of_pos (by simpa using q), List.length_cons, List.take_succ_cons, filt_take h2 k]
    · have e : l.filter (fun d => decide (d < k)) = [] := List.filter_eq_nil_iff.mpr fun z hz => by have := h1 z hz; simp; omega
      rw [List.filter_cons_of_neg (by simpa using q), e]; rfl
theorem sorted_eq : ∀ {l m : List Nat}, l.Pairwise (· ≤ ·) → m.Pairwise (· ≤ ·) → l.Perm m → l = m
  | [], m, _, _, h => by rw [List.nil_perm.mp h]
  | a :: l, m, hl, hm, h => by
    cases m with
    | nil => exact absurd h.length_eq (by simp)
    | cons b m =>
      obtain ⟨l1, l2⟩ := List.pairwise_cons.mp hl
      obtain ⟨m1, m2⟩ := List.pairwise_cons.mp hm
      have hab : a = b := by
        have h1 : a ∈ b :: m := h.mem_iff.mp (.head _)
        have h2 : b ∈ a :: l := h.mem_iff.mpr (.head _)
        rcases List.mem_cons.mp h1 with e | e
        · exact e
        · rcases List.mem_cons.mp h2 with e' | e'
          · exact e'.symm
          · exact Nat.le_antisymm (l1 b e') (m1 a e)
      subst hab
      rw [sorted_eq l2 m2 ((List.perm_cons _).mp h)]
theorem eg_bound {r : List Nat} (hs : r.Pairwise (· ≤ ·)) (h0 : 0 < r.length) (h : EGb r = true) : ∀ x ∈ r, x < r.length := by
  unfold EGb at h
  rw [Bool.and_eq_true, List.all_eq_true] at h
  have h1 := h.2 0 (List.mem_range.mpr h0)
  unfold egAt at h1
  rw [decide_eq_true_eq] at h1
  have hst : (r.take (r.length - (0 + 1))).Pairwise (· ≤ ·) := hs.sublist (List.take_sublist _ _)
  have ft := filt_take hst (0 + 1)
  generalize hp : ((r.take (r.length - (0 + 1))).filter fun d => decide (d < 0 + 1)).length = p at h1 ft
  have hpl : p ≤ r.length - (0 + 1) := by rw [← hp]; exact Nat.le_trans (List.length_filter_le ..) (by rw [List.length_take]; omega)
  rw [List.take_take, Nat.min_eq_left hpl] at ft
  have hz : (r.take p).sum = 0 := by
    rw [ft]
    refine List.sum_eq_zero_iff_forall_eq_nat.mpr fun x hx => ?_
    have := (List.mem_filter.mp hx).2
    simp at this; exact this
  rw [hz] at h1
  obtain ⟨r0, x0, rfl⟩ : ∃ r0 x0, r = r0 ++ [x0] := by
    have hne : r ≠ [] := by intro e; subst e; simp at h0
    exact ⟨r.dropLast, r.getLast hne, (List.dropLast_concat_getLast hne).symm⟩
  have hd : ((r0 ++ [x0]).drop ((r0 ++ [x0]).length - (0 + 1))) = [x0] := by simp
  rw [hd] at h1
  intro x hx
  have hxx : x ≤ x0 := by
    rcases List.mem_append.mp hx with hx | hx
    · exact (List.pairwise_append.mp hs).2.2 x hx x0 (.head _)
    · rw [List.mem_singleton.mp hx]; exact Nat.le_refl _
  simp at h1 hpl ⊢
  omega
theorem eg_hhD {r : List Nat} (hs : r.Pairwise (· ≤ ·)) (h0 : 0 < r.length) (h6 : r.length ≤ 6) (h : EGb r = true) : hhD r.length r = true := by
  have hb := eg_bound hs h0 h
  have hm := mem_srt r 0 r.length hs fun x hx => ⟨Nat.zero_le _, hb x hx⟩
  have key : ∀ n, (srt n 0 n).all (fun l => !EGb l || hhD n l) = true → r.length = n → hhD r.length r = true := fun n hc e => by
    rw [e] at hm ⊢
    have := List.all_eq_true.mp hc r hm
    rw [h] at this
    simpa using this
  have : r.length = 1 ∨ r.length = 2 ∨ r.length = 3 ∨ r.length = 4 ∨ r.length = 5 ∨ r.length = 6 := by omega
  rcases this with e | e | e | e | e | e
  · exact key 1 chk1 e
  · exact key 2 chk2 e
  · exact key 3 chk3 e
  · exact key 4 chk4 e
  · exact key 5 chk5 e
  · exact key 6 chk6 e
theorem joins_iff_hhD {ds r : List Nat} (hp : r.Perm ds) (hs : r.Pairwise (· ≤ ·)) : (joinsOf ds).isSome = hhD r.length r := by
  unfold joinsOf
  rw [hhR_fst]
  have e : (startR ds ds.length).map (·.1) = r := by
    refine sorted_eq (List.pairwise_map.mpr (startR_srt ds _)) hs (List.Perm.trans ?_ hp.symm)
    have := (startR_perm ds ds.length).map (·.1)
    rw [List.map_map] at this
    refine this.trans (.of_eq ?_)
    refine List.ext_getElem (by simp) fun k h1 h2 => ?_
    simp [List.getD_eq_getElem?_getD, h2]
  rw [e, hp.length_eq]
theorem law_plain {ds r : List Nat} (h0 : 0 < ds.length) (h6 : ds.length ≤ 6) (hp : r.Perm ds) (hs : r.Pairwise (· ≤ ·)) :
    (EGb r = true ↔ Graphical ds) ∧ ((joinsOf ds).isSome = true ↔ Graphical ds) := by
  have a : EGb r = true → (joinsOf ds).isSome = true := fun h => by
    rw [joins_iff_hhD hp hs]
    exact eg_hhD hs (by rw [hp.length_eq]; exact h0) (by rw [hp.length_eq]; exact h6) h
  have b : (joinsOf ds).isSome = true → Graphical ds := fun h => by
    obtain ⟨J, hJ⟩ := Option.isSome_iff_exists.mp h
    obtain ⟨G, hd⟩ := joins_graph hJ
    exact G.graphical hd
  have c : Graphical ds → EGb r = true := fun h => graphical_eg h hp
  exact ⟨⟨fun h => b (a h), c⟩, ⟨b, fun h => a (c h)⟩⟩

open PySem PySem.W PySem.Calls PyProof.Rows
set_option Elab.async false
set_option maxRecDepth 100000
theorem first3 {prog w} {A : Around} {h₀ : Heap} {a : Addr} {x y : Value} {Q : Value → Heap → Prop}
    (wd : Wd (K3 w) h₀) (hA : Ok A 1) (hl : h₀.IsList a [x, y].toArray) (H : ∀ h', Ext h₀ h' → Q x h') :
    Wp (model prog w) A (call (.ref 39) [.ref a] []) Q h₀ := by
  refine Wp_enter (K := K3 w) ["pair"] [("pair", .ref a)] [some (.ref a)]
    wd (Ext.refl h₀) (N := []) (by simp) (by simp) hA (by rfl) (by rfl) (fun S => by rfl) (by rfl) (by rfl) (by rfl) (by decide) ?_
  intro e h hsc hext hno hA' S
  repeat walk_at "m"
  refine Wp_item_list (isListExt hl S.keep) (by omega) (x := x) (by rfl) (by omega) ?_
  exact H _ S.keep

/-- a row of the program: its items are lists of a degree and a node -/
abbrev RowAt (h : Heap) (a : Addr) (R : Row) (vs : List Value) : Prop := h.IsList a vs.toArray ∧ Paired (fun (x : Nat × Nat) v => RowL h [(x.1 : Int), (x.2 : Int)] v) R vs
theorem rowL_two {h : Heap} {d n : Int} {v : Value} (x : RowL h [d, n] v) : ∃ a t u, v = .ref a ∧ h.IsList a [.int d t, .int n u].toArray := by
  obtain ⟨a, ys, rfl, hl, hi⟩ := x
  cases hi with
  | cons _ t r => cases r with
    | cons _ u r => cases r with
      | nil => exact ⟨a, t, u, rfl, hl⟩

theorem br3 {prog w} {A : Around} {h₀ : Heap} {a : Addr} {vs : List Value} {R : Row} {x : Nat} {t1 : Tok} {Q : Value → Heap → Prop}
    (wd : Wd (K3 w) h₀) (hA : Ok A 2) (hl : h₀.IsList a vs.toArray) (hr : Paired (fun (x : Nat × Nat) v => RowL h₀ [(x.1 : Int), (x.2 : Int)] v) R vs) (hs : Srt R) (hlen : R.length < 2 ^ 20)
    (H : ∀ t h', Ext h₀ h' → Q (.int (placeR R x : Nat) t) h') :
    Wp (model prog w) A (call (.ref 23) [.ref a, .int x t1] [("key", .ref 39)]) Q h₀ := by
  have hvl := pr_len hr
  have hbs : bs (fun i => !decide ((x : Int) < ((R.map fun y => (y.1 : Int)).getD i 0))) 0 R.length = placeR R x := by
    refine bs_count R.length 0 R.length (by omega) (fun i _ hi => ?_) (Nat.zero_le _) (placeR_le R x)
    have := placeR_spec hs x i R[i] (List.getElem?_eq_getElem hi)
    rw [← this]
    simp [List.getD_eq_getElem?_getD, hi]
  refine Wp_enter (K := K3 w) ["a", "x", "lo", "hi", "key", "mid"] [("a", .ref a), ("x", .int x t1), ("lo", .int 0 189), ("hi", .none), ("key", .ref 39)] [some (.ref a), some (.int x t1), some (.int 0 189), some .none, some (.ref 39), none]
    wd (Ext.refl h₀) (N := []) (by simp) (by simp) hA (by rfl) (by rfl) (fun S => by rfl) (by rfl) (by rfl) (by rfl) (by decide) ?_
  intro e h hsc hext hno hA' S
  repeat walk_at "m"
  refine Wp_len_list (isListExt hl S.keep) (by omega) fun t => ?_
  repeat walk_at "m"
  refine Cp_while (fun n g vals N => ∃ lo' hi' : Nat, ∃ l r tl th om, l = (lo' : Int) ∧ r = (hi' : Int) ∧ n = hi' - lo' ∧ hi' ≤ R.length ∧ bs (fun i => !decide ((x : Int) < ((R.map fun y => (y.1 : Int)).getD i 0))) lo' hi' = placeR R x ∧ h₀ = g ∧ N = [] ∧
    vals = [some (.ref a), some (.int x t1), some (.int l tl), some (.int r th), some (.ref 39), om]) S ⟨0, vs.length, _, _, _, _, _, rfl, rfl, rfl, by omega, by rw [← hvl]; exact hbs, rfl, rfl, rfl⟩ ?_
  clear S
  rintro n g vals N h ⟨lo', hi', l, r, tl, th, om, rfl, rfl, rfl, hh, hbs', rfl, rfl, rfl⟩ S
  repeat walk_at "m"
  refine ⟨fun hb => ?_, fun hb => ?_⟩
  · have hlt : lo' < hi' := by simpa using hb
    repeat walk_at "m"
    obtain ⟨v, hv, hrow⟩ := pr_get' hr ((lo' + hi') / 2) _ (List.getElem?_eq_getElem (by omega))
    obtain ⟨it, td, tn, rfl, hit⟩ := rowL_two hrow
    refine Wp_item_list (isListExt hl S.keep) (by omega) hv (by omega) ?_
    repeat walk_at "m"
    refine first3 (S.wd.ext S.keep) hA' (isListExt hit S.keep) fun h hx => ?_
    replace S := S.grow hx; clear hx
    repeat walk_at "m"
    have hg : (R.map fun y => (y.1 : Int)).getD ((lo' + hi') / 2) 0 = (R[(lo' + hi') / 2].1 : Int) := by simp [List.getD_eq_getElem?_getD, show (lo' + hi') / 2 < R.length by omega]
    refine Wp_split (fun hc => ?_) (fun hc => ?_)
    · repeat walk_at "m"
      exact ⟨_, h₀, _, [], by omega, ⟨lo', (lo' + hi') / 2, _, _, _, _, _, rfl, rfl, rfl, by omega, by rw [← hbs', bs_left hlt (by rw [hg, hc]; rfl)], rfl, rfl, rfl⟩, S⟩
    · repeat walk_at "m"
      exact ⟨_, h₀, _, [], by omega, ⟨(lo' + hi') / 2 + 1, hi', _, _, _, _, _, by omega, rfl, rfl, hh, by rw [← hbs', bs_right hlt (by rw [hg, hc]; rfl)], rfl, rfl, rfl⟩, S⟩
  · have hlt : ¬ lo' < hi' := by simpa using hb
    repeat walk_at "m"
    rw [bs_done hlt] at hbs'
    subst hbs'
    exact H _ _ S.keep

open PySem PySem.W PySem.Calls PyProof.Rows
set_option Elab.async false
set_option maxRecDepth 100000
set_option maxHeartbeats 0
abbrev ci (l : List Nat) : List Int := l.map fun (d : Nat) => (d : Int)
theorem ci_getD (l : List Nat) (i : Nat) : (ci l).getD i 0 = (l.getD i 0 : Nat) := by
  by_cases h : i < l.length
  · simp [List.getD_eq_getElem?_getD, h]
  · simp [List.getD_eq_getElem?_getD, h]
theorem ci_sum : ∀ l : List Nat, (ci l).sum = (l.sum : Nat)
  | [] => rfl
  | a :: l => by
    have := ci_sum l
    simp only [ci, List.map_cons, List.sum_cons] at this ⊢
    rw [this]; omega
theorem ci_perm {m : List Int} {l : List Nat} (h : m.Perm (ci l)) : ∃ r, m = ci r ∧ r.Perm l := by
  obtain ⟨σ, p, q⟩ := perm_of_map (f := fun (d : Nat) => (d : Int)) h.symm rfl
  exact ⟨σ, q, p.symm⟩
theorem ci_sorted {r : List Nat} (h : (ci r).Pairwise (· ≤ ·)) : r.Pairwise (· ≤ ·) :=
  (List.pairwise_map.mp h).imp fun {a b} h => by omega

theorem lt_spec : ∀ {l : List Nat}, l.Pairwise (· ≤ ·) → ∀ k i x, l[i]? = some x → (x < k ↔ i < (l.filter fun d => decide (d < k)).length)
  | [], _, k, i, x, h => by simp at h
  | a :: l, hs, k, i, x, h => by
    obtain ⟨h1, h2⟩ := List.pairwise_cons.mp hs
    by_cases q : a < k
    · rw [List.filter_cons_of_pos (by simpa using q), List.length_cons]
      cases i with
      | zero => simp at h; subst h; simp [q]
      | succ i => have := lt_spec h2 k i x (by simpa using h); omega
    · have e : l.filter (fun d => decide (d < k)) = [] := List.filter_eq_nil_iff.mpr fun z hz => by have := h1 z hz; simp; omega
      rw [List.filter_cons_of_neg (by simpa using q), e]
      cases i with
      | zero => simp at h; subst h; simp; omega
      | succ i => have := h1 x (List.mem_of_getElem? (by simpa using h)); simp; omega
theorem range_filter_len {α : Type} (l : List α) (d : α) (P : α → Bool) : ((List.range l.length).filter fun j => P (l.getD j d)).length = (l.filter P).length := by
  have : l = (List.range l.length).map fun j => l.getD j d := by
    refine List.ext_getElem (by simp) fun k h1 h2 => ?_
    simp [List.getD_eq_getElem?_getD, h1]
  conv => rhs; rw [this]
  rw [List.filter_map, List.length_map]; rfl
theorem bits7 : ∀ k : Nat, k < 8 → Builtin.Int.intBits (k : Int) ≤ 64 := by decide

theorem ineq3 {prog w} {A : Around} {h₀ : Heap} {a : Addr} {xs : List Value} {ds : List Nat} {Q : Value → Heap → Prop}
    (wd : Wd (K3 w) h₀) (hA : Ok A 3) (hl : h₀.IsList a xs.toArray) (hx : IntsAre xs (ci ds)) (hlen : ds.length ≤ 6)
    (H : ∀ r h', Ext h₀ h' → r.Perm ds → r.Pairwise (· ≤ ·) → Q (.bool (EGb r)) h') :
    Wp (model prog w) A (call (.ref 44) [.ref a] []) Q h₀ := by
  have hxl := hx.length
  rw [List.length_map] at hxl
  refine Wp_enter (K := K3 w) ["degrees", "count", "rising", "k", "place", "rest"] [("degrees", .ref a)] [some (.ref a), none, none, none, none, none]
    wd (Ext.refl h₀) (N := []) (by simp) (by simp) hA (by rfl) (by rfl) (fun S => by rfl) (by rfl) (by rfl) (by rfl) (by decide) ?_
  intro e h hsc hext hno hA' S
  repeat walk_at "m"
  refine Wp_len_list (isListExt hl S.keep) (by omega) fun t => ?_
  repeat walk_at "m"
  refine Wp_sorted (isListExt hl S.keep) hx (by omega) fun D h ys zs F hy hperm hsort => ?_
  replace S := F.st S; clear F
  obtain ⟨rr, rfl, hrp⟩ := ci_perm hperm
  have hrs := ci_sorted hsort
  have hrl := hrp.length_eq
  have hyl := hy.length
  rw [List.length_map] at hyl
  repeat walk_at "m"
  refine Wp_sum hA'.hd (isListExt hl S.keep) hx fun t h hext => ?_
  replace S := S.grow hext
  clear hext
  repeat walk_at "m"
  have hsum : (ci ds).sum.fmod 2 = ((rr.sum % 2 : Nat) : Int) := by
    rw [ci_sum, hrp.sum_nat, Int.fmod_eq_emod_of_nonneg _ (by omega)]; omega
  rw [hsum]
  refine Wp_split (fun hc => ?_) (fun hc => ?_)
  · repeat walk_at "m"
    have hb : EGb rr = false := by
      unfold EGb
      have : rr.sum % 2 = 1 := by have := eq_of_beq hc; omega
      rw [this]; rfl
    rw [← hb]
    exact H rr _ S.keep hrp hrs
  have hodd : (rr.sum % 2 != 1) = true := by
    have : ¬ rr.sum % 2 = 1 := fun q => by rw [q] at hc; exact absurd hc (by decide)
    simpa using this
  repeat walk_at "m"
  refine Wp_iter_range (S.at (.head _)) (small_of (by omega) (by omega) (by omega) (by omega)) fun I h F => ?_
  replace S := F.st S; clear F
  rw [show ((xs.length : Int) + 1 - 1).toNat = rr.length by omega] at S
  replace S := S.sub (N' := [(I, (Src.rng 1 rr.length).cn 0), (D, .list ys)]) (by walk_at "sub")
  rw [show xs.length = rr.length by omega] at S
  refine Cp_for (.rng 1 rr.length) (fun i g vals N => h₀ = g ∧ (∀ j, j < i → egAt rr (j + 1) = true) ∧ (∃ t o1 o2 o3, vals = [some (.ref a), some (.int rr.length t), some (.ref D), o1, o2, o3]) ∧ N = [(D, .list ys)]) hA'.hd S
    ⟨rfl, fun j hj => absurd hj (Nat.not_lt_zero _), ⟨_, _, _, _, rfl⟩, rfl⟩ (fun _ _ _ _ _ _ _ => trivial) ?_ ?_
  · clear S
    rintro i v g vals N h hi hv ⟨rfl, hok, ⟨t1, o1, o2, o3, rfl⟩, rfl⟩ S
    have hi : i < rr.length := hi
    obtain ⟨t, hv⟩ := hv
    rw [show (1 : Int) + (i : Int) = ((i + 1 : Nat) : Int) by omega] at hv
    subst hv
    have hst : (rr.take (rr.length - (i + 1))).Pairwise (· ≤ ·) := hrs.sublist (List.take_sublist _ _)
    obtain ⟨p, hp⟩ : ∃ p, p = ((rr.take (rr.length - (i + 1))).filter fun d => decide (d < i + 1)).length := ⟨_, rfl⟩
    have hpl : p ≤ rr.length - (i + 1) := by rw [hp]; exact Nat.le_trans (List.length_filter_le ..) (by rw [List.length_take]; omega)
    repeat walk_at "m"
    rw [show ((rr.length : Nat) : Int) - ((i + 1 : Nat) : Int) = ((rr.length - (i + 1) : Nat) : Int) by omega]
    refine bl3 (lo := 0) (S.wd.ext S.keep) hA' (S.at (by walk_at "mem")).isList hy (by rw [List.length_map]; omega) (by rw [List.length_map]; omega) fun t h hx => ?_
    have hbs : bs (fun j => decide ((ci rr).getD j 0 < ((i + 1 : Nat) : Int))) 0 (rr.length - (i + 1)) = p := by
      refine bs_count _ 0 _ (Nat.le_refl _) (fun j _ hj => ?_) (Nat.zero_le _) hpl
      have := lt_spec hst (i + 1) j rr[j] (by rw [List.getElem?_take, if_pos hj]; exact List.getElem?_eq_getElem (by omega))
      rw [hp, ← this, ci_getD, decide_eq_true_eq]
      simp [List.getD_eq_getElem?_getD, show j < rr.length by omega]
      omega
    rw [hbs]
    replace S := S.grow hx
    clear hx
    repeat walk_at "m"
    refine Wp_ListComp S hsc (by rfl) (by decide) (by rfl) ?_
    repeat walk_at "m"
    intro sl h F
    replace S := F.st S; clear F
    rw [show ((rr.length : Nat) : Int) - ((i + 1 : Nat) : Int) = ((rr.length - (i + 1) : Nat) : Int) by omega] at S
    refine Wp_item_slice (S.at (.head _)) (S.at (by walk_at "mem")).isList .none (.int _ _) (by rw [sizeLine_eq]; omega) fun L h F => ?_
    replace S := F.st S; clear F
    rw [pick_upto] at S
    replace S := S.sub (N' := [(L, .list (ys.take (rr.length - (i + 1)))), (I, (Src.rng 1 rr.length).cn (i + 1)), (D, .list ys)]) (by walk_at "sub")
    repeat walk_at "m"
    refine Wp_iter_list (S.at (.head _)).isList fun I₂ h F => ?_
    replace S := F.st S; clear F
    have hLl : (ys.take (rr.length - (i + 1))).length = rr.length - (i + 1) := by rw [List.length_take]; omega
    refine CompGoal.sel (src := .lst L (ys.take (rr.length - (i + 1)))) S hA'.hd (S.at (.tail _ (.head _))).isList (by rw [sizeLine_eq]; show (ys.take _).length ≤ _; omega) [("k", .int ((i + 1 : Nat) : Int) _)] (fun j => decide ((rr.take (rr.length - (i + 1))).getD j 0 < i + 1)) (fun _ _ => True) (by rfl)
      (.cons (S.capVar (kindOf_of hsc (by rfl)) (by walk_at "at2")) .nil) ?_ ?_ ?_
    · intro cenv g' D₂ zs j v h hsc' hg hN hj hv S
      have hj : j < (ys.take (rr.length - (i + 1))).length := hj
      have hv : (ys.take (rr.length - (i + 1)))[j]? = some v := hv
      obtain ⟨tv, hv'⟩ := intsAt hy (i := j) (by rw [List.length_map]; omega)
      rw [List.getElem?_take, if_pos (by omega), hv', ci_getD] at hv
      cases hv
      refine Wp_tests_one ?_
      repeat walk_at "m"
      refine ⟨?_, S⟩
      have e1 : (rr.take (rr.length - (i + 1))).getD j 0 = rr.getD j 0 := by
        simp [List.getD_eq_getElem?_getD, List.getElem?_take, show j < rr.length - (i + 1) by omega, show j < rr.length by omega]
      rw [e1]
      exact decide_eq_decide.mpr (by omega)
    · intro cenv g' D₂ zs j v h hsc' hg hN hj hv hp' S
      repeat walk_at "m"
      exact ⟨trivial, S⟩
    · intro zs D₂ h hP S
      have hzl : zs.length = p := by
        rw [← pr_len hP, hp]
        have := range_filter_len (rr.take (rr.length - (i + 1))) 0 fun d => decide (d < i + 1)
        rw [← this]
        show ((List.range (ys.take (rr.length - (i + 1))).length).filter _).length = _
        rw [hLl, show (rr.take (rr.length - (i + 1))).length = rr.length - (i + 1) by rw [List.length_take]; omega]
      repeat walk_at "m"
      refine Wp_len_list (S.at (.head _)).isList (by omega) fun t => ?_
      rw [hzl]
      repeat walk_at "m"
      refine Wp_else (by simp) ?_
      replace S := S.sub (N' := [(I, (Src.rng 1 rr.length).cn (i + 1)), (D, .list ys)]) (by walk_at "sub")
      repeat walk_at "m"
      intro sl h F
      replace S := F.st S; clear F
      refine Wp_item_slice (S.at (.head _)) (S.at (by walk_at "mem")).isList .none (.int _ _) (by rw [sizeLine_eq]; omega) fun L h F => ?_
      replace S := F.st S; clear F
      rw [pick_upto] at S
      repeat walk_at "m"
      refine Wp_sum hA'.hd (S.at (.head _)).isList (hy.take p) fun t h hext => ?_
      replace S := S.grow hext
      clear hext
      replace S := S.sub (N' := [(I, (Src.rng 1 rr.length).cn (i + 1)), (D, .list ys)]) (by walk_at "sub")
      repeat walk_at "m"
      refine Wp_mul (IntMulOk.of_left (bits7 _ (by omega))) fun t => ?_
      repeat walk_at "m"
      intro sl h F
      replace S := F.st S; clear F
      rw [show ((rr.length : Nat) : Int) - ((i + 1 : Nat) : Int) = ((rr.length - (i + 1) : Nat) : Int) by omega] at S
      refine Wp_item_slice (S.at (.head _)) (S.at (by walk_at "mem")).isList (.int _ _) .none (by rw [sizeLine_eq]; omega) fun L h F => ?_
      replace S := F.st S; clear F
      rw [pick_from] at S
      repeat walk_at "m"
      refine Wp_sum hA'.hd (S.at (.head _)).isList (hy.drop (rr.length - (i + 1))) fun t h hext => ?_
      replace S := S.grow hext
      clear hext
      replace S := S.sub (N' := [(I, (Src.rng 1 rr.length).cn (i + 1)), (D, .list ys)]) (by walk_at "sub")
      repeat walk_at "m"
      refine Wp_mul (IntMulOk.of_left (bits7 _ (by omega))) fun t => ?_
      repeat walk_at "m"
      have hd : decide (((i + 1 : Nat) : Int) * (((i + 1 : Nat) : Int) - 1) + ((List.take p (ci rr)).sum + ((i + 1 : Nat) : Int) * (((rr.length - (i + 1) : Nat) : Int) - (p : Int))) < (List.drop (rr.length - (i + 1)) (ci rr)).sum) = !egAt rr (i + 1) := by
        unfold egAt
        rw [← hp, ← List.map_take, ← List.map_drop, ci_sum, ci_sum, ← decide_not]
        refine decide_eq_decide.mpr ?_
        have e1 : ((i + 1 : Nat) : Int) - 1 = ((i + 1 - 1 : Nat) : Int) := by omega
        have e2 : ((rr.length - (i + 1) : Nat) : Int) - (p : Int) = ((rr.length - (i + 1) - p : Nat) : Int) := by omega
        rw [e1, e2, ← Int.natCast_mul, ← Int.natCast_mul]
        omega
      rw [hd]
      refine Wp_split (fun hc => ?_) (fun hc => ?_)
      · repeat walk_at "m"
        have hb : EGb rr = false := by
          unfold EGb
          rw [hodd, Bool.true_and]
          refine List.all_eq_false.mpr ⟨i, List.mem_range.mpr hi, ?_⟩
          simpa using hc
        rw [← hb]
        exact H rr _ S.keep hrp hrs
      · repeat walk_at "m"
        refine ⟨h₀, _, _, ⟨rfl, fun j hj => ?_, ⟨_, _, _, _, rfl⟩, rfl⟩, S⟩
        by_cases q : j = i
        · subst q; simpa using hc
        · exact hok j (by omega)
  · rintro g vals N h ⟨rfl, hok, ⟨t1, o1, o2, o3, rfl⟩, rfl⟩ S
    repeat walk_at "m"
    have hb : EGb rr = true := by
      unfold EGb
      rw [hodd, Bool.true_and, List.all_eq_true]
      exact fun j hj => hok j (List.mem_range.mp hj)
    rw [← hb]
    exact H rr _ S.keep hrp hrs

open PySem PySem.W PySem.Calls PyProof.Rows
set_option Elab.async false
set_option maxRecDepth 100000
set_option maxHeartbeats 0
abbrev RP (h : Heap) (x : Nat × Nat) (v : Value) : Prop := RowL h [(x.1 : Int), (x.2 : Int)] v
def RN (h₀ h : Heap) (x : Nat × Nat) (v : Value) : Prop := ∃ a ys, v = .ref a ∧ h₀.get? a = none ∧ h.IsList a ys.toArray ∧ IntsAre ys [(x.1 : Int), (x.2 : Int)]
theorem RN.ext {h₀ h h' : Heap} {x v} (r : RN h₀ h x v) (e : Ext h h') : RN h₀ h' x v := let ⟨a, ys, p, n, q, i⟩ := r; ⟨a, ys, p, n, isListExt q e, i⟩
theorem pr_snoc {α β : Type} {F : α → β → Prop} : ∀ {l : List α} {a : α} {m : List β}, Paired F (l ++ [a]) m → ∃ m₀ b, m = m₀ ++ [b] ∧ Paired F l m₀ ∧ F a b
  | [], a, m, h => by cases h with | cons x r => cases r; exact ⟨[], _, rfl, .nil, x⟩
  | y :: l, a, m, h => by
    cases h with
    | cons x r => obtain ⟨m₀, b, rfl, r', fa⟩ := pr_snoc r; exact ⟨_ :: m₀, b, rfl, .cons x r', fa⟩
theorem pr_map {α β γ : Type} {F : γ → β → Prop} {f : α → γ} : ∀ {l : List α} {m : List β}, Paired (fun a b => F (f a) b) l m → Paired F (l.map f) m
  | _, _, .nil => .nil
  | _, _, .cons x r => .cons x (pr_map r)
theorem hhR_snoc (f : Nat) (R0 : Row) (x : Nat × Nat) (J : List (Nat × Nat)) : hhR (f + 1) (R0 ++ [x]) J = if x.1 > R0.length then none else
    (back x.2 (R0.take (R0.length - x.1)) J (R0.drop (R0.length - x.1))).elim none fun p => hhR f p.1 p.2 := by
  conv => lhs; unfold hhR
  simp only [List.getLast?_concat, List.dropLast_concat]
  cases back x.2 (R0.take (R0.length - x.1)) J (R0.drop (R0.length - x.1)) <;> rfl
theorem drop_cons {α : Type} {l : List α} {i : Nat} {y : α} (h : l[i]? = some y) : l.drop i = y :: l.drop (i + 1) := by
  obtain ⟨hi, rfl⟩ := List.getElem?_eq_some_iff.mp h
  exact List.drop_eq_getElem_cons hi
theorem none_of_ext {h h' : Heap} {a : Addr} (e : Ext h h') (n : h'.get? a = none) : h.get? a = none := by
  cases q : h.get? a with
  | none => rfl
  | some o => rw [e _ _ q] at n; cases n

theorem joins3 {prog w} {A : Around} {h₀ : Heap} {a : Addr} {xs : List Value} {ds : List Nat} {Q : Value → Heap → Prop}
    (wd : Wd (K3 w) h₀) (hA : Ok A 3) (hl : h₀.IsList a xs.toArray) (hx : IntsAre xs (ci ds)) (hlen : ds.length ≤ 6)
    (H : ∀ v h', Ext h₀ h' → (v = .none ∧ joinsOf ds = none ∨ ∃ D jvs J, v = .ref D ∧ joinsOf ds = some J ∧ h₀.get? D = none ∧ h'.IsList D jvs.toArray ∧ Paired (RN h₀ h') J jvs ∧ J.length ≤ 36) → Q v h') :
    Wp (model prog w) A (call (.ref 49) [.ref a] []) Q h₀ := by
  have hxl := hx.length
  rw [List.length_map] at hxl
  refine Wp_enter (K := K3 w) ["degrees", "row", "node", "joins", "need", "taken", "left", "other", "place"] [("degrees", .ref a)] [some (.ref a), none, none, none, none, none, none, none, none]
    wd (Ext.refl h₀) (N := []) (by simp) (by simp) hA (by rfl) (by rfl) (fun S => by rfl) (by rfl) (by rfl) (by rfl) (by decide) ?_
  intro e h hsc hext hno hA' S
  repeat walk_at "m"
  refine Wp_len_list (isListExt hl S.keep) (by omega) fun t => ?_
  repeat walk_at "m"
  refine Wp_iter_range0 (S.at (.head _)) (by omega) fun I h F => ?_
  replace S := F.st S; clear F
  replace S := S.sub (N' := [_, _]) (.cons_cons _ (.cons _ (.cons_cons _ .slnil)))
  refine Cp_for (.rng 0 xs.length) (fun i g vals N => Ext h₀ g ∧ ∃ Dr rvs o, vals = [some (.ref a), some (.ref Dr), o, none, none, none, none, none, none] ∧ N = [(Dr, .list rvs)] ∧ Paired (RP g) (startR ds i) rvs) hA'.hd S
    ⟨Ext.refl _, _, _, _, rfl, rfl, .nil⟩ (fun _ _ _ _ _ _ _ => trivial) ?_ ?_
  · clear S
    rintro i v g vals N h hi hv ⟨hg, Dr, rvs, o, rfl, rfl, hR⟩ S
    have hi : i < xs.length := hi
    obtain ⟨t, hv⟩ := hv
    rw [Int.zero_add] at hv
    subst hv
    have hRl := pr_len hR
    rw [startR_length] at hRl
    obtain ⟨td, hd⟩ := intsAt hx (i := i) (by rw [List.length_map]; omega)
    rw [ci_getD] at hd
    repeat walk_at "m"
    refine ⟨Dr, rvs, rfl, S.at (by walk_at "mem"), ?_⟩
    repeat walk_at "m"
    refine Wp_item_list (isListExt hl (hg.trans S.keep)) (by omega) (by simpa using hd) (by omega) ?_
    repeat walk_at "m"
    refine br3 (S.wd.ext S.keep) hA' (S.at (by walk_at "mem")).isList (pr_imp (fun _ _ x => x.ext S.keep) hR) (startR_srt ds i) (by rw [startR_length]; omega) fun t h hxx => ?_
    replace S := S.grow hxx; clear hxx
    repeat walk_at "m"
    refine Wp_item_list (isListExt hl (hg.trans S.keep)) (by omega) (by simpa using hd) (by omega) ?_
    repeat walk_at "m"
    obtain ⟨g', hgg, hat, S⟩ := S.freeze
    repeat walk_at "m"
    have hk : placeR (startR ds i) (ds.getD i 0) ≤ rvs.length := by have := placeR_le (startR ds i) (ds.getD i 0); rw [startR_length] at this; omega
    refine Wp_insert S (D := Dr) (xs := rvs) (by walk_at "mem") (by walk_at "lput") hk (by omega) fun h S => ?_
    refine ⟨rfl, ?_⟩
    repeat walk_at "m"
    refine ⟨g', _, _, ⟨hg.trans hgg, Dr, _, _, rfl, rfl, ?_⟩, S⟩
    rw [startR_succ]
    exact pr_ins _ (pr_imp (fun _ _ x => x.ext hgg) hR) ⟨_, _, rfl, hat.isList, .cons _ _ (.cons _ _ .nil)⟩
  · rintro g vals N h ⟨hg, Dr, rvs, o, rfl, rfl, hR⟩ S
    have hR : Paired (RP g) (startR ds xs.length) rvs := hR
    rw [hxl] at hR
    repeat walk_at "m"
    refine Cp_while (fun n g vals N => Ext h₀ g ∧ ∃ Dr rvs R Dj jvs J o1 o2 o3 o4 o5 o6, vals = [some (.ref a), some (.ref Dr), o1, some (.ref Dj), o2, o3, o4, o5, o6] ∧ N = [(Dj, .list jvs), (Dr, .list rvs)] ∧ n = R.length ∧ Paired (RP g) R rvs ∧ Srt R ∧
      Paired (RN h₀ g) J jvs ∧ hhR R.length R J = joinsOf ds ∧ R.length ≤ 6 ∧ J.length + 6 * R.length ≤ 36) S
      ⟨hg, Dr, rvs, startR ds ds.length, _, [], [], _, _, _, _, _, _, rfl, rfl, rfl, hR, startR_srt ds _, .nil, by rw [startR_length]; rfl, by rw [startR_length]; exact hlen, by rw [startR_length, List.length_nil]; omega⟩ ?_
    clear S
    rintro n g vals N h ⟨hg, Dr, rvs, R, Dj, jvs, J, o1, o2, o3, o4, o5, o6, rfl, rfl, rfl, hR, hRs, hJ, hout, hR6, hJ6⟩ S
    repeat walk_at "m"
    obtain ⟨as, hra⟩ := pr_reads (F := fun ds v => RowL h ds v) (fun _ _ x => RowL.reads x) (dss := R.map fun x => [(x.1 : Int), (x.2 : Int)]) (vs := rvs) (pr_map (pr_imp (fun _ _ x => x.ext S.keep) hR))
    refine Wp_ne_nil hA' (S.at (by walk_at "mem")).isList (S.at (.head _)).isList hra (canLay_rows _) ?_
    repeat walk_at "m"
    replace S := S.tail
    refine ⟨fun hb => ?_, fun hb => ?_⟩
    · have hne : R ≠ [] := by intro q; subst q; cases hb
      obtain ⟨R0, x, rfl⟩ : ∃ R0 x, R = R0 ++ [x] := ⟨R.dropLast, R.getLast hne, (List.dropLast_concat_getLast hne).symm⟩
      obtain ⟨rv0, vx, rfl, hR0, hvx⟩ := pr_snoc hR
      obtain ⟨ax, tx, ux, rfl, hax⟩ := rowL_two hvx
      have hR0l := pr_len hR0
      rw [List.length_append, List.length_singleton] at hR6 hJ6 hout
      repeat walk_at "m"
      refine ⟨Dr, _, rfl, S.at (by walk_at "mem"), ?_⟩
      repeat walk_at "m"
      refine Wp_pop S (D := Dr) (xs := rv0) (by walk_at "mem") (by walk_at "lput") (by omega) fun h S => ?_
      repeat walk_at "m"
      refine Wp_unpack2 hA'.hd (isListExt hax S.keep) fun h hxx => ?_
      replace S := S.grow hxx; clear hxx
      repeat walk_at "m"
      refine Wp_len_list (S.at (by walk_at "mem")).isList (by omega) fun t => ?_
      repeat walk_at "m"
      refine Wp_split (fun hc => ?_) (fun hc => ?_)
      · have hc : (rv0.length : Int) < x.1 := of_decide_eq_true hc
        rw [hhR_snoc, if_pos (by omega)] at hout
        repeat walk_at "m"
        exact H _ _ (hg.trans S.keep) (.inl ⟨rfl, hout.symm⟩)
      have hc : ¬ (rv0.length : Int) < x.1 := of_decide_eq_false hc
      rw [hhR_snoc, if_neg (by omega)] at hout
      obtain ⟨m, hm⟩ : ∃ m, m = R0.length - x.1 := ⟨_, rfl⟩
      rw [← hm] at hout
      obtain ⟨B, hB⟩ : ∃ B, back x.2 (R0.take m) J (R0.drop m) = B := ⟨_, rfl⟩
      rw [hB] at hout
      repeat walk_at "m"
      refine Wp_len_list (S.at (by walk_at "mem")).isList (by omega) fun t => ?_
      repeat walk_at "m"
      intro sl h F
      replace S := F.st S; clear F
      rw [show ((rv0.length : Nat) : Int) - (x.1 : Int) = (m : Int) by omega] at S
      refine Wp_item_slice (S.at (.head _)) (S.at (by walk_at "mem")).isList (.int _ _) .none (by rw [sizeLine_eq]; omega) fun Lt h F => ?_
      replace S := F.st S; clear F
      rw [pick_from] at S
      repeat walk_at "m"
      refine Wp_len_list (S.at (by walk_at "mem")).isList (by omega) fun t => ?_
      repeat walk_at "m"
      intro sl h F
      replace S := F.st S; clear F
      rw [show ((rv0.length : Nat) : Int) - (x.1 : Int) = (m : Int) by omega] at S
      refine Wp_item_slice (S.at (.head _)) (S.at (by walk_at "mem")).isList .none (.int _ _) (by rw [sizeLine_eq]; omega) fun L2 h F => ?_
      replace S := F.st S; clear F
      rw [pick_upto] at S
      repeat walk_at "m"
      replace S := S.sub (N' := [(L2, .list (rv0.take m)), (Lt, .list (rv0.drop m)), (Dj, .list jvs)]) (by walk_at "sub")
      refine Wp_iter_list (S.at (.tail _ (.head _))).isList fun I h F => ?_
      replace S := F.st S; clear F
      have hml : m ≤ R0.length := by omega
      have hdl : (rv0.drop m).length = R0.length - m := by rw [List.length_drop]; omega
      refine Cp_for (.lst Lt (rv0.drop m)) (fun i g' vals N => Ext g g' ∧ ∃ rvs R' jvs J' o4 o5 o6, vals = [some (.ref a), some (.ref L2), some (.int x.2 ux), some (.ref Dj), some (.int x.1 tx), some (.ref Lt), o4, o5, o6] ∧
        N = [(L2, .list rvs), (Lt, .list (rv0.drop m)), (Dj, .list jvs)] ∧ Paired (RP g') R' rvs ∧ Srt R' ∧ Paired (RN h₀ g') J' jvs ∧ back x.2 R' J' ((R0.drop m).drop i) = B ∧ R'.length = m + i ∧ J'.length = J.length + i) hA'.hd S
        ⟨Ext.refl _, _, R0.take m, _, J, _, _, _, rfl, rfl, pr_take m hR0, (hRs.sublist (List.sublist_append_left _ _)).sublist (List.take_sublist _ _), hJ, hB, by rw [List.length_take]; omega, rfl⟩
        (by rintro i g' vals N h ⟨hgg, rvs, R', jvs, J', o4, o5, o6, rfl, rfl, _⟩ S; exact (S.at (by walk_at "mem")).isList) ?_ ?_
      · clear S
        rintro i v g' vals N h hi hv ⟨hgg, rvs, R', jvs, J', o4, o5, o6, rfl, rfl, hR', hRs', hJ', hback, hR'l, hJ'l⟩ S
        have hi : i < (rv0.drop m).length := hi
        have hv : (rv0.drop m)[i]? = some v := hv
        obtain ⟨y, hy, hyv⟩ := pr_get (pr_drop m hR0) i v hv
        obtain ⟨ay, ty, uy, rfl, hay⟩ := rowL_two hyv
        have hay := isListExt hay hgg
        rw [drop_cons hy] at hback
        have hvl := pr_len hR'
        have hjl := pr_len hJ'
        refine Wp_letOwned_lst ⟨_, rfl⟩ (S.at (.head _)) ?_
        refine Wp_unpack2 hA'.hd (isListExt hay S.keep) fun h hxx => ?_
        replace S := S.grow hxx; clear hxx
        repeat walk_at "m"
        refine Wp_split (fun hc => ?_) (fun hc => ?_)
        · have hc : (y.1 : Int) = 0 := eq_of_beq hc
          have hbn : B = none := by rw [← hback]; unfold back; rw [if_pos (by omega)]
          rw [hbn] at hout
          repeat walk_at "m"
          exact H _ _ (hg.trans (hgg.trans S.keep)) (.inl ⟨rfl, hout.symm⟩)
        have hy0 : y.1 ≠ 0 := fun q => by rw [q] at hc; exact absurd hc (by decide)
        have hback : back x.2 (insR R' (y.1 - 1, y.2)) (J' ++ [joinP x.2 y.2]) ((R0.drop m).drop (i + 1)) = B := by
          rw [← hback]; conv => rhs; unfold back
          rw [if_neg hy0]
        repeat walk_at "m"
        refine ⟨Dj, jvs, rfl, S.at (by walk_at "mem"), ?_⟩
        repeat walk_at "m"
        refine Wp_min2 hA'.hd fun t h hxx => ?_
        replace S := S.grow hxx; clear hxx
        rw [show min (x.2 : Int) (y.2 : Int) = ((min x.2 y.2 : Nat) : Int) by omega]
        repeat walk_at "m"
        refine Wp_max2 hA'.hd fun t h hxx => ?_
        replace S := S.grow hxx; clear hxx
        rw [show max (x.2 : Int) (y.2 : Int) = ((max x.2 y.2 : Nat) : Int) by omega]
        repeat walk_at "m"
        have hrn : h₀.get? r = none := none_of_ext (hg.trans hgg) (S.news _ (.head _)).2.2.1
        obtain ⟨g₂, hg₂, hat, S⟩ := S.freeze
        have hJ₂ : Paired (RN h₀ g₂) (J' ++ [joinP x.2 y.2]) (jvs ++ [.ref r]) := Paired.append' (pr_imp (fun _ _ x => x.ext hg₂) hJ') (.cons ⟨_, _, rfl, hrn, hat.isList, .cons _ _ (.cons _ _ .nil)⟩ .nil)
        have hR₂ := pr_imp (fun _ _ x => RowL.ext x hg₂) hR'
        clear hat hrn
        refine Wp_append S (D := Dj) (ys := jvs) (by walk_at "mem") (by walk_at "lput") (by rw [sizeLine_eq]; omega) fun h S => ?_
        refine ⟨rfl, ?_⟩
        repeat walk_at "m"
        rw [show (y.1 : Int) - 1 = ((y.1 - 1 : Nat) : Int) by omega]
        refine br3 (S.wd.ext S.keep) hA' (S.at (by walk_at "mem")).isList (pr_imp (fun _ _ x => RowL.ext x S.keep) hR₂) hRs' (by omega) fun t h hxx => ?_
        replace S := S.grow hxx; clear hxx
        repeat walk_at "m"
        refine Wp_ListComp S hsc (by rfl) (by decide) (by rfl) ?_
        repeat walk_at "m"
        refine Wp_iter_list (S.at (by walk_at "mem")).isList fun I₂ h F => ?_
        replace S := F.st S; clear F
        refine CompGoal.sel (src := .lst L2 rvs) S hA'.hd (S.at (by walk_at "mem")).isList (by rw [sizeLine_eq]; show rvs.length ≤ _; omega) [("left", .int (y.1 : Int) ty)] (fun j => decide ((R'.getD j (0, 0)).1 ≤ y.1 - 1)) (fun _ _ => True) (by rfl)
          (.cons (S.capVar (kindOf_of hsc (by rfl)) (by walk_at "at2")) .nil) ?_ ?_ ?_
        · intro cenv g₃ D₂ zs j v h hsc' hgx hN hj hv S
          have hj : j < rvs.length := hj
          have hv : rvs[j]? = some v := hv
          obtain ⟨z, hz, hzv⟩ := pr_get hR₂ j v hv
          obtain ⟨az, tz, uz, rfl, haz⟩ := rowL_two hzv
          refine Wp_tests_one ?_
          repeat walk_at "m"
          refine Wp_item_list (isListExt (isListExt haz hgx) S.keep) (by omega) (x := .int (z.1 : Int) tz) (by rfl) (by omega) ?_
          repeat walk_at "m"
          refine ⟨?_, S⟩
          have e1 : R'.getD j (0, 0) = z := by rw [List.getD_eq_getElem?_getD, hz]; rfl
          rw [e1]
          exact decide_eq_decide.mpr (by omega)
        · intro cenv g₃ D₂ zs j v h hsc' hgx hN hj hv hp' S
          repeat walk_at "m"
          exact ⟨trivial, S⟩
        · intro zs D₂ h hP S
          have hzl : zs.length = placeR R' (y.1 - 1) := by
            rw [← pr_len hP]
            have := range_filter_len R' (0, 0) fun z => decide (z.1 ≤ y.1 - 1)
            unfold placeR
            rw [← this]
            show ((List.range rvs.length).filter _).length = _
            rw [hvl]
          have hpl := placeR_le R' (y.1 - 1)
          repeat walk_at "m"
          refine Wp_len_list (S.at (.head _)).isList (by omega) fun t => ?_
          rw [hzl]
          repeat walk_at "m"
          refine Wp_else (by simp) ?_
          replace S := S.tail
          repeat walk_at "m"
          refine ⟨L2, rvs, rfl, S.at (by walk_at "mem"), ?_⟩
          repeat walk_at "m"
          rw [show (y.1 : Int) - 1 = ((y.1 - 1 : Nat) : Int) by omega] at S
          obtain ⟨g₄, hg₄, hat, S⟩ := S.freeze
          refine Wp_insert S (D := L2) (xs := rvs) (k := placeR R' (y.1 - 1)) (by walk_at "mem") (by walk_at "lput") (by omega) (by omega) fun h S => ?_
          refine ⟨rfl, ?_⟩
          repeat walk_at "m"
          refine ⟨g₄, _, _, ⟨hgg.trans (hg₂.trans hg₄), _, insR R' (y.1 - 1, y.2), _, J' ++ [joinP x.2 y.2], _, _, _, rfl, rfl, ?_, insR_srt hRs' _, pr_imp (fun _ _ x => x.ext hg₄) hJ₂, hback, by rw [insR_length]; omega, by rw [List.length_append, List.length_singleton]; omega⟩, S⟩
          exact pr_ins _ (pr_imp (fun _ _ x => RowL.ext x hg₄) hR₂) ⟨_, _, rfl, hat.isList, .cons _ _ (.cons _ _ .nil)⟩
      · rintro g' vals N h ⟨hgg, rvs, R', jvs, J', o4, o5, o6, rfl, rfl, hR', hRs', hJ', hback, hR'l, hJ'l⟩ S
        have hR'l : R'.length = m + (rv0.drop m).length := hR'l
        have hJ'l : J'.length = J.length + (rv0.drop m).length := hJ'l
        have hback : back x.2 R' J' ((R0.drop m).drop (rv0.drop m).length) = B := hback
        rw [List.drop_eq_nil_of_le (by rw [List.length_drop]; omega)] at hback
        have hBv : B = some (R', J') := hback.symm
        rw [hBv] at hout
        have hout : hhR R0.length R' J' = joinsOf ds := hout
        repeat walk_at "m"
        replace S := S.sub (N' := [(L2, .list rvs), (Dj, .list jvs)]) (by walk_at "sub")
        refine ⟨R'.length, g', _, _, by rw [List.length_append, List.length_singleton]; omega, ⟨hg.trans hgg, L2, rvs, R', Dj, jvs, J', _, _, _, _, _, _, rfl, rfl, rfl, hR', hRs', hJ', ?_, by omega, by omega⟩, S.swap⟩
        rw [show R'.length = R0.length by omega]; exact hout
    · have hRn : R = [] := by
        cases R with
        | nil => rfl
        | cons _ _ => cases hb
      subst hRn
      repeat walk_at "m"
      refine H _ _ (hg.trans S.keep) (.inr ⟨Dj, jvs, J, rfl, hout.symm, none_of_ext hg (S.news _ (.head _)).2.2.1, (S.at (.head _)).isList, pr_imp (fun _ _ x => x.ext S.keep) hJ, by omega⟩)

open PySem PySem.W PySem.Calls PyProof.Rows
set_option Elab.async false
set_option maxRecDepth 100000
set_option maxHeartbeats 0
abbrev RT (h : Heap) (v : List Nat) (y : Value) : Prop := RowT h (ci v) y

theorem pr_sel {α : Type} {F : α → Value → Prop} {l : List α} {vs : List Value} (d : α) (r : Paired F l vs) : ∀ {ks : List Nat} {ys : List Value}, (∀ k ∈ ks, k < l.length) → Paired (fun k y => vs[k]? = some y) ks ys → Paired F (ks.map fun k => l.getD k d) ys
  | _, _, _, .nil => .nil
  | k :: ks, y :: ys, hk, .cons x q => by
    obtain ⟨a, ha, fa⟩ := pr_get r k y x
    have e : l.getD k d = a := by rw [List.getD_eq_getElem?_getD, ha]; rfl
    refine .cons ?_ (pr_sel d r (fun k hk' => hk k (.tail _ hk')) q)
    show F (l.getD k d) y
    rw [e]; exact fa
theorem mem_sel {α : Type} {l : List α} {d : α} {p : Nat → Bool} {x : α} : x ∈ (((List.range l.length).filter p).map fun k => l.getD k d) ↔ ∃ k, k < l.length ∧ p k = true ∧ l[k]? = some x := by
  rw [List.mem_map]
  constructor
  · rintro ⟨k, hk, rfl⟩
    obtain ⟨h1, h2⟩ := List.mem_filter.mp hk
    have h1 := List.mem_range.mp h1
    exact ⟨k, h1, h2, by rw [List.getD_eq_getElem?_getD, List.getElem?_eq_getElem h1]; rfl⟩
  · rintro ⟨k, h1, h2, h3⟩
    exact ⟨k, List.mem_filter.mpr ⟨List.mem_range.mpr h1, h2⟩, by rw [List.getD_eq_getElem?_getD, h3]; rfl⟩
theorem sel_length {α : Type} {l : List α} {d : α} {p : Nat → Bool} : (((List.range l.length).filter p).map fun k => l.getD k d).length ≤ l.length := by
  rw [List.length_map]
  exact Nat.le_trans (List.length_filter_le ..) (by rw [List.length_range]; exact Nat.le_refl _)
theorem ci_inj : ∀ {a b : List Nat}, ci a = ci b → a = b
  | [], [], _ => rfl
  | [], _ :: _, h => by cases h
  | _ :: _, [], h => by cases h
  | x :: a, y :: b, h => by
    have h : (x : Int) :: ci a = (y : Int) :: ci b := h
    injection h with h1 h2
    rw [ci_inj h2, Int.ofNat.inj h1]
theorem pow15 {L : Nat} (h : L ≤ 15) : 2 ^ L ≤ 32768 := Nat.pow_le_pow_right (by decide) h

theorem Wp_sortedP {prog : Program} {w : World} {A : Around} {h : Heap} {Q : Value → Heap → Prop} {l : Addr} {vs : List Value} {dss : List (List Int)} (hl : h.IsList l vs.toArray) (hr : RowsT h dss vs) (hp : ∀ ds ∈ dss, ds ≠ []) (hz : vs.length ≤ sizeLine)
    (H : ∀ a h' ys, Fresh h a (.list ys) h' → vs.Perm ys → Q (.ref a) h') : Wp (model prog w) A (call (.builtin "sorted") [.ref l]) Q h := fun s E e => by
  subst e
  refine sorted_tups hl (fun v hv => ?_) hz fun out hperm => ?_
  · obtain ⟨ds, hds, a, ys, rfl, ⟨o, ho, n, q⟩, hi⟩ := pr_mem hr v hv
    refine ⟨a, o, ys.toArray, n, rfl, ho, by rw [q], by rw [q], fun x hx => ?_, ?_⟩
    · have hx : x ∈ ys := by simpa using hx
      obtain ⟨i, hi', rfl⟩ := List.getElem_of_mem hx
      obtain ⟨t, ht⟩ := intsAt hi (i := i) (by rw [← hi.length]; exact hi')
      rw [List.getElem?_eq_getElem hi'] at ht
      exact ⟨_, _, Option.some.inj ht⟩
    · have h1 := hi.length
      have : 0 < ds.length := List.length_pos_iff.mpr (hp ds hds)
      simp; omega
  · refine ⟨Same.mk' s _ s.toks, H _ _ out.toList ⟨sortedAll_ext _ _ _, ?_, sortedAll_at _ _ _⟩ hperm.symm⟩
    exact Heap.get?_none_of_le (Nat.le_succ _)
theorem St.rot {K : Frag} {g h : Heap} {env : Env} {vars : List Str} {vals : List (Option Value)} {caps : List (Str × Value)} {N : List (Addr × Cn)} {a b c : Addr × Cn}
    (S : St K g env vars vals caps (a :: b :: c :: N) h) : St K g env vars vals caps (a :: c :: b :: N) h :=
  { S with
    news := fun p hp => S.news p (by simp only [List.mem_cons] at hp ⊢; rcases hp with h | h | h | h <;> simp [h])
    nodN := by
      have := S.nodN
      simp only [List.map_cons, List.nodup_cons, List.mem_cons, not_or] at this ⊢
      exact ⟨⟨this.1.2.1, this.1.1, this.1.2.2⟩, ⟨Ne.symm this.2.1.1, this.2.2.1⟩, this.2.1.2, this.2.2.2⟩ }
theorem ways3 {prog w} {A : Around} {h₀ : Heap} {a : Addr} {xs : List Value} {ds : List Nat} {Q : Value → Heap → Prop}
    (wd : Wd (K3 w) h₀) (hA : Ok A 3) (hl : h₀.IsList a xs.toArray) (hx : IntsAre xs (ci ds)) (hlen : ds.length ≤ 6)
    (H : ∀ b h', Ext h₀ h' → (b = true ↔ Graphical ds) → Q (.bool b) h') :
    Wp (model prog w) A (call (.ref 54) [.ref a] []) Q h₀ := by
  have hxl := hx.length
  rw [List.length_map] at hxl
  refine Wp_enter (K := K3 w) ["degrees", "count", "states", "i", "j", "grown", "one"] [("degrees", .ref a)] [some (.ref a), none, none, none, none, none, none]
    wd (Ext.refl h₀) (N := []) (by simp) (by simp) hA (by rfl) (by rfl) (fun S => by rfl) (by rfl) (by rfl) (by rfl) (by decide) ?_
  intro e h hsc hext hno hA' S
  repeat walk_at "m"
  refine Wp_len_list (isListExt hl S.keep) (by omega) fun t => ?_
  repeat walk_at "m"
  refine Wp_tuple_list (isListExt hl S.keep) (by rw [sizeLine_eq]; omega) fun T h F => ?_
  replace S := F.st S; clear F
  obtain ⟨g1, hg1, hT, S⟩ := S.freeze
  repeat walk_at "m"
  refine Wp_iter_range0 (S.at (.head _)) (by omega) fun I h F => ?_
  replace S := F.st S; clear F
  replace S := S.sub (N' := [_, _]) (.cons_cons _ (.cons _ (.cons_cons _ .slnil)))
  rw [hxl] at S
  refine Cp_for (.rng 0 ds.length) (fun i g vals N => Ext h₀ g ∧ ∃ Ds svs vss t o1 o2 o3 o4, vals = [some (.ref a), some (.int ds.length t), some (.ref Ds), o1, o2, o3, o4] ∧ N = [(Ds, .list svs)] ∧ Paired (RT g) vss svs ∧
      (∀ v, v ∈ vss ↔ WayG ds (pairsTo ds.length i 0) i v) ∧ vss.length ≤ 2 ^ (pairsTo ds.length i 0).length) hA'.hd S
    ⟨hg1, _, [.ref T], [ds], _, _, _, _, _, rfl, rfl, .cons ⟨T, xs, rfl, hT, hx⟩ .nil, fun v => by rw [List.mem_singleton, pairsTo_zero]; exact way_nil.symm, by rw [pairsTo_zero]; exact Nat.le_refl _⟩ (fun _ _ _ _ _ _ _ => trivial) ?_ ?_
  · clear S
    rintro i v g vals N h hi hv ⟨hg, Ds, svs, vss, tc, o1, o2, o3, o4, rfl, rfl, hV, hW, hVl⟩ S
    have hi : i < ds.length := hi
    obtain ⟨ti, hv⟩ := hv
    rw [Int.zero_add] at hv
    subst hv
    repeat walk_at "m"
    refine Wp_iter_range (S.at (.head _)) (small_of (by omega) (by omega) (by omega) (by omega)) fun J h F => ?_
    replace S := F.st S; clear F
    rw [show ((ds.length : Int) - ((i : Int) + 1)).toNat = ds.length - (i + 1) by omega] at S
    replace S := S.sub (N' := [(J, (Src.rng ((i : Int) + 1) (ds.length - (i + 1))).cn 0), (I, (Src.rng 0 ds.length).cn (i + 1)), (Ds, .list svs)]) (by walk_at "sub")
    refine Cp_for (.rng ((i : Int) + 1) (ds.length - (i + 1))) (fun m g' vals N => Ext g g' ∧ ∃ Ds svs vss o2 o3 o4, vals = [some (.ref a), some (.int ds.length tc), some (.ref Ds), some (.int i ti), o2, o3, o4] ∧
        N = [(I, (Src.rng 0 ds.length).cn (i + 1)), (Ds, .list svs)] ∧ Paired (RT g') vss svs ∧ (∀ v, v ∈ vss ↔ WayG ds (pairsTo ds.length i m) i v) ∧ vss.length ≤ 2 ^ (pairsTo ds.length i m).length) hA'.hd S
      ⟨Ext.refl _, Ds, svs, vss, _, _, _, rfl, rfl, hV, hW, hVl⟩ (fun _ _ _ _ _ _ _ => trivial) ?_ ?_
    · clear S hV hW hVl
      clear svs vss Ds
      rintro m v g' vals N h hm hv ⟨hgg, Ds, svs, vss, o2, o3, o4, rfl, rfl, hV, hW, hVl⟩ S
      have hm : m < ds.length - (i + 1) := hm
      obtain ⟨tj, hv⟩ := hv
      rw [show ((i : Int) + 1) + (m : Int) = ((i + 1 + m : Nat) : Int) by omega] at hv
      subst hv
      have h15 := pairsTo_15 (n := ds.length) (i := i) (j := m + 1) (by omega) (by omega) (by omega)
      rw [pairsTo_succ, List.length_append, List.length_singleton] at h15
      have hp15 := pow15 (L := (pairsTo ds.length i m).length) (by omega)
      have hsl := pr_len hV
      repeat walk_at "m"
      refine Wp_list_list (S.at (by walk_at "mem")).isList (by rw [sizeLine_eq]; omega) fun Dg h F => ?_
      replace S := F.st S; clear F
      repeat walk_at "m"
      refine Wp_iter_list (l := Ds) (xs := svs) (S.at (by walk_at "mem")).isList fun I₃ h F => ?_
      replace S := F.st S; clear F
      refine Cp_for (.lst Ds svs) (fun q g'' vals N => Ext g' g'' ∧ ∃ gvs gss o4, vals = [some (.ref a), some (.int ds.length tc), some (.ref Ds), some (.int i ti), some (.int ((i + 1 + m : Nat) : Int) tj), some (.ref Dg), o4] ∧
          N = [(Dg, .list gvs), (J, (Src.rng ((i : Int) + 1) (ds.length - (i + 1))).cn (m + 1)), (I, (Src.rng 0 ds.length).cn (i + 1)), (Ds, .list svs)] ∧ Paired (RT g'') gss gvs ∧
          (∀ v, v ∈ gss ↔ v ∈ vss ∨ ∃ u ∈ vss.take q, 0 < u.getD i 0 ∧ 0 < u.getD (i + 1 + m) 0 ∧ v = sub2 i (i + 1 + m) u) ∧ gss.length ≤ vss.length + q) hA'.hd S
        ⟨Ext.refl _, svs, vss, _, rfl, rfl, hV, fun v => by simp, Nat.le_refl _⟩
        (by rintro q g'' vals N h ⟨hgg, gvs, gss, o4, rfl, rfl, _⟩ S; exact (S.at (by walk_at "mem")).isList) ?_ ?_
      · clear S
        rintro q v g'' vals N h hq hv ⟨hgx, gvs, gss, o4, rfl, rfl, hG, hGm, hGl⟩ S
        have hq : q < svs.length := hq
        have hv : svs[q]? = some v := hv
        obtain ⟨uu, hu, huv⟩ := pr_get hV q v hv
        have huW : WayG ds (pairsTo ds.length i m) i uu := (hW uu).mp (List.mem_of_getElem? hu)
        have hul := huW.1
        obtain ⟨Tu, ys, rfl, hat, hys⟩ := huv
        have hat := hat.ext hgx
        have htk : vss.take (q + 1) = vss.take q ++ [uu] := by rw [List.take_add_one, hu]; rfl
        obtain ⟨tui, hui⟩ := intsAt hys (i := i) (by rw [List.length_map]; omega)
        obtain ⟨tuj, huj⟩ := intsAt hys (i := i + 1 + m) (by rw [List.length_map]; omega)
        rw [ci_getD] at hui huj
        have hgl := pr_len hG
        have skip : ¬ (0 < uu.getD i 0 ∧ 0 < uu.getD (i + 1 + m) 0) → ∀ v, v ∈ gss ↔ v ∈ vss ∨ ∃ uu ∈ vss.take (q + 1), 0 < uu.getD i 0 ∧ 0 < uu.getD (i + 1 + m) 0 ∧ v = sub2 i (i + 1 + m) uu := fun hno v => by
          rw [hGm v, htk]
          refine or_congr .rfl ⟨fun ⟨u', h1, h2⟩ => ⟨u', List.mem_append_left _ h1, h2⟩, fun ⟨u', h1, h2, h3, h4⟩ => ?_⟩
          rcases List.mem_append.mp h1 with h1 | h1
          · exact ⟨u', h1, h2, h3, h4⟩
          · rw [List.mem_singleton.mp h1] at h2 h3; exact absurd ⟨h2, h3⟩ hno
        repeat walk_at "m"
        refine Wp_allAnd ?_
        repeat walk_at "m"
        refine Wp_item_tuple (hat.ext S.keep) (by omega) hui (by omega) ?_
        repeat walk_at "m"
        refine ⟨fun hb => ?_, fun hb => ?_⟩
        · have hb1 : (0 : Int) < (uu.getD i 0 : Nat) := of_decide_eq_true hb
          refine Wp_allAnd ?_
          repeat walk_at "m"
          refine Wp_item_tuple (hat.ext S.keep) (by omega) huj (by omega) ?_
          repeat walk_at "m"
          refine ⟨fun hb => ?_, fun hb => ?_⟩
          · have hb2 : (0 : Int) < (uu.getD (i + 1 + m) 0 : Nat) := of_decide_eq_true hb
            refine Wp_allAnd_nil ?_
            repeat walk_at "m"
            refine ⟨Dg, gvs, rfl, S.at (by walk_at "mem"), ?_⟩
            repeat walk_at "m"
            refine Wp_ListComp S hsc (by rfl) (by decide) (by rfl) ?_
            repeat walk_at "m"
            refine Wp_iter_range0 (S.at (.head _)) (by omega) fun I₄ h F => ?_
            replace S := F.st S; clear F
            replace S := S.sub (N' := [(I₄, (Src.rng 0 ds.length).cn 0), (I₃, (Src.lst Ds svs).cn (q + 1)), (Dg, .list gvs), (J, (Src.rng ((i : Int) + 1) (ds.length - (i + 1))).cn (m + 1)), (I, (Src.rng 0 ds.length).cn (i + 1)), (Ds, .list svs)]) (by walk_at "sub")
            refine CompGoal.sel S hA'.hd trivial (by rw [sizeLine_eq]; show ds.length ≤ _; omega) [("i", .int (i : Int) ti), ("j", .int ((i + 1 + m : Nat) : Int) tj), ("one", .ref Tu)] (fun _ => true)
              (fun k y => ∃ t, y = .int (((if k = i ∨ k = i + 1 + m then uu.getD k 0 - 1 else uu.getD k 0 : Nat)) : Int) t) (by rfl)
              (.cons (S.capVar (kindOf_of hsc (by rfl)) (by walk_at "at2")) (.cons (S.capVar (kindOf_of hsc (by rfl)) (by walk_at "at2")) (.cons (S.capVar (kindOf_of hsc (by rfl)) (by walk_at "at2")) .nil))) ?_ ?_ ?_
            · intro cenv g₃ D₂ zs k v h hsc' hgx' hN hk hv S
              exact Wp_tests_nil ⟨rfl, S⟩
            · intro cenv g₃ D₂ zs k v h hsc' hgx' hN hk hv hp' S
              have hk : k < ds.length := hk
              obtain ⟨tk, rfl⟩ := hv
              simp only [Int.zero_add] at S ⊢
              obtain ⟨tuk, huk⟩ := intsAt hys (i := k) (by rw [List.length_map]; omega)
              rw [ci_getD] at huk
              repeat walk_at "m"
              refine Wp_allOr ?_
              repeat walk_at "m"
              refine ⟨fun hb => ?_, fun hb => ?_⟩
              · have hki : k = i := by have := eq_of_beq hb; omega
                refine Wp_ethen rfl ?_
                repeat walk_at "m"
                refine Wp_item_tuple ((hat.ext hgx').ext S.keep) (by omega) huk (by omega) ?_
                repeat walk_at "m"
                refine ⟨⟨t, ?_⟩, S⟩
                rw [if_pos (.inl hki), show (uu.getD k 0 : Int) - 1 = ((uu.getD k 0 - 1 : Nat) : Int) by subst hki; omega]
              · have hki : ¬ k = i := fun x => by subst x; simp at hb
                refine Wp_allOr ?_
                repeat walk_at "m"
                refine ⟨fun hb => ?_, fun hb => Wp_allOr_nil ?_⟩
                · have hkj : k = i + 1 + m := by have := eq_of_beq hb; omega
                  refine Wp_ethen rfl ?_
                  repeat walk_at "m"
                  refine Wp_item_tuple ((hat.ext hgx').ext S.keep) (by omega) huk (by omega) ?_
                  repeat walk_at "m"
                  refine ⟨⟨t, ?_⟩, S⟩
                  rw [if_pos (.inr hkj), show (uu.getD k 0 : Int) - 1 = ((uu.getD k 0 - 1 : Nat) : Int) by subst hkj; omega]
                · have hkj : ¬ k = i + 1 + m := fun x => by subst x; simp at hb
                  refine Wp_eelse rfl ?_
                  repeat walk_at "m"
                  refine Wp_item_tuple ((hat.ext hgx').ext S.keep) (by omega) huk (by omega) ?_
                  refine ⟨⟨tuk, ?_⟩, S⟩
                  rw [if_neg (fun x => x.elim hki hkj)]
            · intro zs D₂ h hP S
              have hzI : IntsAre zs (ci (sub2 i (i + 1 + m) uu)) := by
                have := Paired.ints (f := fun (k : Nat) => (((if k = i ∨ k = i + 1 + m then uu.getD k 0 - 1 else uu.getD k 0 : Nat)) : Int)) hP
                rw [List.filter_eq_self.mpr (fun _ _ => rfl)] at this
                unfold sub2 ci
                rw [List.map_map, hul]
                exact this
              have hzl := hzI.length
              rw [List.length_map, sub2_length] at hzl
              repeat walk_at "m"
              refine Wp_tuple_list (S.at (.head _)).isList (by rw [sizeLine_eq]; omega) fun Tn h F => ?_
              replace S := F.st S; clear F
              obtain ⟨g₂, hg₂, hTn, S⟩ := S.freeze
              replace S := S.tail
              repeat walk_at "m"
              refine Wp_append S (D := Dg) (ys := gvs) (by walk_at "mem") (by walk_at "lput") (by rw [sizeLine_eq]; omega) fun h S => ?_
              refine ⟨rfl, ?_⟩
              repeat walk_at "m"
              refine ⟨g₂, _, _, ⟨hgx.trans hg₂, _, gss ++ [sub2 i (i + 1 + m) uu], _, rfl, rfl, Paired.append' (pr_imp (fun _ _ x => RowT.ext x hg₂) hG) (.cons ⟨Tn, zs, rfl, hTn, hzI⟩ .nil), fun v => ?_, by rw [List.length_append, List.length_singleton]; omega⟩, S⟩
              rw [List.mem_append, hGm v, htk, List.mem_singleton]
              constructor
              · rintro ((h1 | ⟨u', h1, h2⟩) | h1)
                · exact .inl h1
                · exact .inr ⟨u', List.mem_append_left _ h1, h2⟩
                · exact .inr ⟨uu, List.mem_append_right _ (.head _), by omega, by omega, h1⟩
              · rintro (h1 | ⟨u', h1, h2, h3, h4⟩)
                · exact .inl (.inl h1)
                · rcases List.mem_append.mp h1 with h1 | h1
                  · exact .inl (.inr ⟨u', h1, h2, h3, h4⟩)
                  · rw [List.mem_singleton.mp h1] at h4; exact .inr h4
          · have hb2 : ¬ (0 : Int) < (uu.getD (i + 1 + m) 0 : Nat) := of_decide_eq_false hb
            repeat walk_at "m"
            exact ⟨g'', _, _, ⟨hgx, gvs, gss, _, rfl, rfl, hG, skip (by omega), by omega⟩, S⟩
        · have hb1 : ¬ (0 : Int) < (uu.getD i 0 : Nat) := of_decide_eq_false hb
          repeat walk_at "m"
          exact ⟨g'', _, _, ⟨hgx, gvs, gss, _, rfl, rfl, hG, skip (by omega), by omega⟩, S⟩
      · rintro g'' vals N h ⟨hgx, gvs, gss, o4, rfl, rfl, hG, hGm, hGl⟩ S
        have hGm : ∀ v, v ∈ gss ↔ v ∈ vss ∨ ∃ u ∈ vss.take svs.length, 0 < u.getD i 0 ∧ 0 < u.getD (i + 1 + m) 0 ∧ v = sub2 i (i + 1 + m) u := hGm
        have hGl : gss.length ≤ vss.length + svs.length := hGl
        rw [List.take_of_length_le (by omega)] at hGm
        have hGW : ∀ v, v ∈ gss ↔ WayG ds (pairsTo ds.length i (m + 1)) i v := fun v => by
          rw [hGm v, pairsTo_succ, way_step (by omega) hi (by omega) (Nat.le_refl _) (by omega), hW v]
          refine or_congr .rfl (exists_congr fun u => ?_)
          rw [hW u]
        have hgl := pr_len hG
        repeat walk_at "m"
        refine Wp_sortedP (dss := gss.map ci) (S.at (by walk_at "mem")).isList (pr_map (pr_imp (fun _ _ x => RowT.ext x S.keep) hG)) (fun x hx q => ?_) (by rw [sizeLine_eq]; omega) fun D2 h ys F hperm => ?_
        · obtain ⟨v, hv, rfl⟩ := List.mem_map.mp hx
          have := ((hGW v).mp hv).1
          have : v = [] := List.map_eq_nil_iff.mp q
          subst this
          simp at *; omega
        replace S := F.st S; clear F
        obtain ⟨ess, hep, hE⟩ := pr_perm hG hperm
        have hel := pr_len hE
        have hel2 := hep.length_eq
        repeat walk_at "m"
        refine Wp_Assign_comp S hsc (by rfl) (by decide) (by rfl) (swaps_of hsc (by rfl)) ?_
        repeat walk_at "m"
        refine Wp_len_list (S.at (by walk_at "mem")).isList (by omega) fun t => ?_
        repeat walk_at "m"
        refine Wp_iter_range0 (S.at (.head _)) (by omega) fun I₄ h F => ?_
        replace S := F.st S; clear F
        replace S := S.sub (N' := [(I₄, (Src.rng 0 ys.length).cn 0), (D2, .list ys), (J, (Src.rng ((i : Int) + 1) (ds.length - (i + 1))).cn (m + 1)), (I, (Src.rng 0 ds.length).cn (i + 1)), (Ds, .list svs)]) (by walk_at "sub")
        rw [show ys.length = ess.length from hel.symm] at S
        refine CompGoal.sel S hA'.hd trivial (by rw [sizeLine_eq]; show ess.length ≤ _; omega) [("grown", .ref D2)] (fun k => decide (k = 0) || !decide (ess[k - 1]? = ess[k]?)) (fun k y => ys[k]? = some y) (by rfl)
          (.cons (S.capVar (kindOf_of hsc (by rfl)) (by walk_at "at2")) .nil) ?_ ?_ ?_
        · intro cenv g₃ D₃ zs k v h hsc' hgx' hN hk hv S
          have hk : k < ess.length := hk
          obtain ⟨tk, rfl⟩ := hv
          simp only [Int.zero_add] at S ⊢
          refine Wp_tests_one ?_
          repeat walk_at "m"
          refine Wp_allOr ?_
          repeat walk_at "m"
          refine ⟨fun hb => ⟨?_, S⟩, fun hb => ?_⟩
          · have : k = 0 := by have := eq_of_beq hb; omega
            rw [decide_eq_true this]; rfl
          · have hk0 : ¬ k = 0 := fun x => by subst x; simp at hb
            have e1 : ess[k - 1]? = some ess[k - 1] := List.getElem?_eq_getElem (by omega)
            have e2 : ess[k]? = some ess[k] := List.getElem?_eq_getElem hk
            obtain ⟨y1, hy1, hr1⟩ := pr_get' hE _ _ e1
            obtain ⟨y2, hy2, hr2⟩ := pr_get' hE _ _ e2
            refine Wp_allOr ?_
            repeat walk_at "m"
            refine Wp_item_list (isListExt (hN (D2, .list ys) (by walk_at "mem")).isList S.keep) (by omega) (show ys[((k : Int) - 1).toNat]? = _ by rw [show ((k : Int) - 1).toNat = k - 1 by omega]; exact hy1) (by omega) ?_
            repeat walk_at "m"
            refine Wp_item_list (isListExt (hN (D2, .list ys) (by walk_at "mem")).isList S.keep) (by omega) hy2 (by omega) ?_
            refine Wp_ne_rowT hA' (RowT.ext hr1 (hgx'.trans S.keep)) (RowT.ext hr2 (hgx'.trans S.keep)) ?_
            repeat walk_at "m"
            have ed : decide (ess[k - 1]? = ess[k]?) = decide (ci ess[k - 1] = ci ess[k]) := by
              rw [e1, e2]
              exact decide_eq_decide.mpr ⟨fun x => by rw [Option.some.inj x], fun x => by rw [ci_inj x]⟩
            refine ⟨fun hb => ⟨?_, S⟩, fun hb => Wp_allOr_nil ⟨?_, S⟩⟩
            · rw [ed, hb, Bool.or_true]
            · rw [ed, hb, decide_eq_false hk0]; rfl
        · intro cenv g₃ D₃ zs k v h hsc' hgx' hN hk hv hp' S
          have hk : k < ess.length := hk
          obtain ⟨tk, rfl⟩ := hv
          simp only [Int.zero_add] at S ⊢
          obtain ⟨y2, hy2, hr2⟩ := pr_get' hE _ _ (List.getElem?_eq_getElem hk)
          repeat walk_at "m"
          refine Wp_item_list (isListExt (hN (D2, .list ys) (by walk_at "mem")).isList S.keep) (by omega) hy2 (by omega) ?_
          exact ⟨hy2, S⟩
        intro zs D₃ h hP S
        have hP : Paired (fun k y => ys[k]? = some y) ((List.range ess.length).filter fun k => decide (k = 0) || !decide (ess[k - 1]? = ess[k]?)) zs := hP
        have hZ := pr_sel [] hE (fun k hk => List.mem_range.mp (List.mem_filter.mp hk).1) hP
        refine ⟨_, _, _, _, _, _, S, by walk_at "put2", fun h S => ?_⟩
        repeat walk_at "m"
        replace S := S.sub (N' := [(D₃, .list zs), (J, (Src.rng ((i : Int) + 1) (ds.length - (i + 1))).cn (m + 1)), (I, (Src.rng 0 ds.length).cn (i + 1))]) (by walk_at "sub")
        replace S := S.swap.rot
        refine ⟨g'', _, _, ⟨hgg.trans hgx, D₃, zs, _, _, _, _, rfl, rfl, hZ, fun v => ?_, ?_⟩, S⟩
        · rw [mem_sel, mem_dropAlike ess v _ (fun k _ => by simp), ← hep.mem_iff, hGW v]
        · refine Nat.le_trans sel_length ?_
          rw [pairsTo_succ, List.length_append, List.length_singleton, Nat.pow_succ]
          omega
    · rintro g' vals N h ⟨hgg, Ds, svs, vss, o2, o3, o4, rfl, rfl, hV, hW, hVl⟩ S
      have hW : ∀ v, v ∈ vss ↔ WayG ds (pairsTo ds.length i (ds.length - (i + 1))) i v := hW
      have hVl : vss.length ≤ 2 ^ (pairsTo ds.length i (ds.length - (i + 1))).length := hVl
      have h15 := pairsTo_15 (n := ds.length) (i := i) (j := ds.length - (i + 1)) (by omega) (by omega) (by omega)
      have hp15 := pow15 h15
      have hsl := pr_len hV
      repeat walk_at "m"
      refine Wp_Assign_comp S hsc (by rfl) (by decide) (by rfl) (swaps_of hsc (by rfl)) ?_
      repeat walk_at "m"
      refine Wp_iter_list (l := Ds) (xs := svs) (S.at (by walk_at "mem")).isList fun I₄ h F => ?_
      replace S := F.st S; clear F
      refine CompGoal.sel (src := .lst Ds svs) S hA'.hd (S.at (by walk_at "mem")).isList (by rw [sizeLine_eq]; show svs.length ≤ _; omega) [("i", .int (i : Int) ti)] (fun k => decide ((vss.getD k []).getD i 0 = 0)) (fun k y => svs[k]? = some y) (by rfl)
        (.cons (S.capVar (kindOf_of hsc (by rfl)) (by walk_at "at2")) .nil) ?_ ?_ ?_
      · intro cenv g₃ D₃ zs k v h hsc' hgx' hN hk hv S
        have hk : k < svs.length := hk
        have hv : svs[k]? = some v := hv
        obtain ⟨uu, hu, Tu, ys, rfl, hat, hys⟩ := pr_get hV k v hv
        have hul := ((hW uu).mp (List.mem_of_getElem? hu)).1
        obtain ⟨tui, hui⟩ := intsAt hys (i := i) (by rw [List.length_map]; omega)
        rw [ci_getD] at hui
        refine Wp_tests_one ?_
        repeat walk_at "m"
        refine Wp_item_tuple (hat.ext (hgx'.trans S.keep)) (by omega) hui (by omega) ?_
        repeat walk_at "m"
        refine ⟨?_, S⟩
        rw [show vss.getD k [] = uu by rw [List.getD_eq_getElem?_getD, hu]; rfl]
        show decide _ = _
        exact decide_eq_decide.mpr (by omega)
      · intro cenv g₃ D₃ zs k v h hsc' hgx' hN hk hv hp' S
        repeat walk_at "m"
        exact ⟨hv, S⟩
      intro zs D₃ h hP S
      have hP : Paired (fun k y => svs[k]? = some y) ((List.range svs.length).filter fun k => decide ((vss.getD k []).getD i 0 = 0)) zs := hP
      rw [← hsl] at hP
      have hZ := pr_sel [] hV (fun k hk => List.mem_range.mp (List.mem_filter.mp hk).1) hP
      refine ⟨_, _, _, _, _, _, S, by walk_at "put2", fun h S => ?_⟩
      repeat walk_at "m"
      replace S := (S.sub (N' := [(D₃, .list zs), (I, (Src.rng 0 ds.length).cn (i + 1))]) (by walk_at "sub")).swap
      refine ⟨g', _, _, ⟨hg.trans hgg, D₃, zs, _, _, _, _, _, _, rfl, rfl, hZ, fun v => ?_, ?_⟩, S⟩
      · rw [mem_sel, pairsTo_next, way_zero, ← hW v]
        constructor
        · rintro ⟨k, h1, h2, h3⟩
          rw [show vss.getD k [] = v by rw [List.getD_eq_getElem?_getD, h3]; rfl] at h2
          exact ⟨List.mem_of_getElem? h3, of_decide_eq_true h2⟩
        · rintro ⟨h1, h2⟩
          obtain ⟨k, hk, e⟩ := List.getElem_of_mem h1
          have e : vss[k]? = some v := by rw [List.getElem?_eq_getElem hk, e]
          refine ⟨k, hk, ?_, e⟩
          rw [show vss.getD k [] = v by rw [List.getD_eq_getElem?_getD, e]; rfl]
          exact decide_eq_true h2
      · refine Nat.le_trans sel_length ?_
        rw [pairsTo_next]; exact hVl
  · rintro g vals N h ⟨hg, Ds, svs, vss, tc, o1, o2, o3, o4, rfl, rfl, hV, hW, hVl⟩ S
    have hW : ∀ v, v ∈ vss ↔ WayG ds (pairsTo ds.length ds.length 0) ds.length v := hW
    repeat walk_at "m"
    obtain ⟨as, hra⟩ := pr_reads (F := fun ds v => RowT h ds v) (f := pTup) (fun _ _ x => RowT.reads x) (dss := vss.map ci) (vs := svs) (pr_map (pr_imp (fun _ _ x => RowT.ext x S.keep) hV))
    refine Wp_ne_nil hA' (S.at (by walk_at "mem")).isList (S.at (.head _)).isList hra (canLay_tups _) ?_
    refine H _ _ (hg.trans S.keep) ?_
    rw [← way_all, ← pairsTo_all]
    constructor
    · intro hb
      cases vss with
      | nil => cases hb
      | cons v _ => exact ⟨v, (hW v).mp (.head _)⟩
    · rintro ⟨v, hv⟩
      have := (hW v).mpr hv
      cases vss with
      | nil => cases this
      | cons _ _ => rfl

open PySem PySem.W PySem.Calls PyProof.Rows
set_option Elab.async false
set_option maxRecDepth 100000
section
variable {prog : Program} {w : World} {A : Around} {K : Frag} {g h : Heap} {env : Env} {vars : List Str} {vals : List (Option Value)} {caps : List (Str × Value)} {N : List (Addr × Cn)}
/-- a comprehension of two clauses without tests -/
theorem CompGoal.twoN {I : Addr} {src : Src} {elt iter iter₂ : Expr} {x y : Str} {px py : Pos} {scope : Scope} {pos : Pos} {Q : Value → Heap → Prop}
    (S : St K g env vars vals caps ((I, src.cn 0) :: N) h) (hA : A.handled = none) (hb : src.base h) (caps' : List (Str × Value)) (len₂ : Nat → Nat) (item₂ : Nat → Nat → Value → Prop) (P : Nat → Nat → List Value → Heap → Prop)
    (hok : compOk scope [x, y] (caps'.map (·.1)) = true) (hcaps : CapsOk env h caps') (hs : ∀ (cenv : Env) v, foldedSetIterable iter₂ cenv v = pure v)
    (start : ∀ g', Ext g g' → P 0 0 [] g') (next : ∀ i ys g, P i (len₂ i) ys g → P (i + 1) 0 ys g) (hsz : ∀ i j ys g, P i j ys g → ys.length ≤ sizeLine)
    (source : ∀ (cenv : Env) g' D ys i v oy h', cenv.scope = relabel scope env → Ext g g' → (∀ q ∈ N, IsAt g' q.1 q.2) → i < src.len → src.item i v → P i 0 ys g' → St K g' cenv [x, y] [some v, oy] caps' [(I, src.cn (i + 1)), (D, .list ys)] h' →
      Wp (model prog w) A (eval iter₂ cenv) (fun x₂ h₁ => Wp (model prog w) A (pyIter x₂) (fun it₂ h₂ => ∃ I₂ src₂ g₂, it₂ = .ref I₂ ∧ Src.len src₂ = len₂ i ∧ (∀ j v, src₂.item j v → item₂ i j v) ∧ Ext g' g₂ ∧ src₂.base g₂ ∧ P i 0 ys g₂ ∧
        St K g₂ cenv [x, y] [some v, oy] caps' ((I₂, src₂.cn 0) :: (I, src.cn (i + 1)) :: [(D, .list ys)]) h₂) h₁) h')
    (elem : ∀ (cenv : Env) g' D ys i j v v₂ I₂ c₂ h', cenv.scope = relabel scope env → Heap.ExtBut I h g' → Ext g g' → (∀ q ∈ N, IsAt g' q.1 q.2) → i < src.len → src.item i v → j < len₂ i → item₂ i j v₂ → P i j ys g' →
      St K g' cenv [x, y] [some v, some v₂] caps' ((I₂, c₂) :: (I, src.cn (i + 1)) :: [(D, .list ys)]) h' →
      Wp (model prog w) A (eval elt cenv) (fun y' h₂ => ∃ g₂, Ext g' g₂ ∧ P i (j + 1) (ys ++ [y']) g₂ ∧ St K g₂ cenv [x, y] [some v, some v₂] caps' ((I₂, c₂) :: (I, src.cn (i + 1)) :: [(D, .list ys)]) h₂) h')
    (H : ∀ ys g'' D h₅, P src.len 0 ys g'' → Ext g g'' → Ext g'' h₅ → g''.get? D = none → h.get? D = none → St K g env vars vals caps ((D, .list ys) :: N) h₅ → Q (.ref D) h₅) :
    CompGoal prog w A K env elt [⟨.Name x px, iter, [], 0⟩, ⟨.Name y py, iter₂, [], 0⟩] scope pos (.ref I) Q h := by
  have gI := (S.news (I, src.cn 0) (.head _)).2.2.1
  have hggOf : ∀ g', Heap.ExtBut I h g' → Ext g g' := fun g' hx b o e => hx b o (fun q => by rw [q, gI] at e; cases e) (S.keep b o e)
  refine ⟨I, src, g, vars, vals, caps, N, rfl, S, [x, y], caps', fun ys g'' => P src.len 0 ys g'', hok, hcaps, fun cenv g' D h' hsc hx hD Sc => ?_, fun ys g'' D h₅ hP hx hg hgD hD Sf => H ys g'' D h₅ hP (hggOf g'' hx) hg hgD hD Sf⟩
  have hgg : Ext g g' := hggOf g' hx
  have hNN : ∀ q ∈ N, IsAt g' q.1 q.2 := fun q hq => by
    have nd := List.nodup_cons.mp S.nodN
    exact (S.news q (.tail _ hq)).1.but hx fun z => nd.1 (by have := List.mem_map_of_mem (f := (·.1)) hq; rwa [z] at this)
  have hbg : src.base g' := Src.base_but hb (S.at (.head _)) hx
  refine Cp_compLoop (turn2a ..) src (fun i g₁ vals₁ N₁ => Ext g' g₁ ∧ ∃ ys o o', vals₁ = [o, o'] ∧ N₁ = [(D, .list ys)] ∧ P i 0 ys g₁) hA Sc ⟨Ext.refl _, [], none, none, rfl, rfl, start g' hgg⟩ ?_ ?_ ?_
  · rintro i g₁ vals₁ N₁ h₁ ⟨hx₁, _⟩ S₁
    exact Src.base_ext (Src.base_ext hbg hx₁) S₁.keep
  · rintro i v g₁ vals₁ N₁ h₁ hi hv ⟨hx₁, ys, o, o', rfl, rfl, hP⟩ S₁
    refine Wp_letOwned_Name (Wp_assign_Name (Wp_store S₁ .head fun h₂ S₂ => Wp_tests_nil ?_))
    refine Wp_innerS ?_ (hs cenv)
    refine (source cenv g₁ D ys i v _ h₂ hsc (hgg.trans hx₁) (fun q hq => (hNN q hq).ext hx₁) hi hv hP S₂).mono fun x₂ h₃ H₃ => H₃.mono fun it₂ h₄ H₄ => ?_
    obtain ⟨I₂, src₂, g₂, rfl, hl₂, hi₂, hx₂, hb₂, hP₂, S₄⟩ := H₄
    have loop : Cp (model prog w) A (.compLoop (.ListComp elt [⟨.Name x px, iter, [], 0⟩, ⟨.Name y py, iter₂, [], 0⟩] scope pos) 1 (.ref I₂) (.ref D) cenv) (fun _ h₅ => Fin.again (.compLoop (.ListComp elt [⟨.Name x px, iter, [], 0⟩, ⟨.Name y py, iter₂, [], 0⟩] scope pos) 0 (.ref I) (.ref D) cenv) = .again (.compLoop (.ListComp elt [⟨.Name x px, iter, [], 0⟩, ⟨.Name y py, iter₂, [], 0⟩] scope pos) 0 (.ref I) (.ref D) cenv) ∧
        ∃ g'' vals' N', (Ext g' g'' ∧ ∃ ys o o', vals' = [o, o'] ∧ N' = [(D, .list ys)] ∧ P (i + 1) 0 ys g'') ∧ St K g'' cenv [x, y] vals' caps' ((I, src.cn (i + 1)) :: N') h₅) h₄ := by
      refine Cp_compLoop (turn2b ..) src₂ (fun j g₃ vals₃ N₃ => Ext g₂ g₃ ∧ ∃ ys o', vals₃ = [some v, o'] ∧ N₃ = (I, src.cn (i + 1)) :: [(D, .list ys)] ∧ P i j ys g₃) hA S₄ ⟨Ext.refl _, ys, _, rfl, rfl, hP₂⟩ ?_ ?_ ?_
      · rintro j g₃ vals₃ N₃ h₅ ⟨hx₃, _⟩ S₅
        exact Src.base_ext (Src.base_ext hb₂ hx₃) S₅.keep
      · rintro j v₂ g₃ vals₃ N₃ h₅ hj hv₂ ⟨hx₃, zs, o'', rfl, rfl, hP₃⟩ S₅
        have hxx : Ext g' g₃ := (hx₁.trans hx₂).trans hx₃
        refine Wp_letOwned_Name (Wp_assign_Name (Wp_store S₅ (.tail .head) fun h₆ S₆ => Wp_tests_nil ?_))
        refine Wp_bind (Wp_emit ((elem cenv g₃ D zs i j v v₂ I₂ _ h₆ hsc (fun b o hb e => hxx b o (hx b o hb e)) (hgg.trans hxx) (fun q hq => (hNN q hq).ext hxx) hi hv (by rw [← hl₂]; exact hj) (hi₂ j v₂ hv₂) hP₃ S₆).mono fun y' h₇ H₇ => ?_))
        obtain ⟨g₄, hx₄, hP₄, S₇⟩ := H₇
        refine Wp_append S₇ (D := D) (ys := zs) (.tail _ (.tail _ (.head _))) (.tail (.tail .head)) (hsz _ _ _ _ hP₃) fun h₈ S₈ => Wp_pure ⟨rfl, g₄, _, _, ⟨hx₃.trans hx₄, _, _, rfl, rfl, hP₄⟩, S₈⟩
      · rintro g₃ vals₃ N₃ h₅ ⟨hx₃, zs, o'', rfl, rfl, hP₃⟩ S₅
        refine ⟨rfl, g₃, _, _, ⟨(hx₁.trans hx₂).trans hx₃, zs, _, _, rfl, rfl, next _ _ _ (hl₂ ▸ hP₃)⟩, S₅⟩
    exact Cp_compStart2 loop (iter_self (i := 0) (S₄.at (.head _)) loop)
  · rintro g₁ vals₁ N₁ h₁ ⟨hx₁, ys, o, o', rfl, rfl, hP⟩ S₁
    exact ⟨ys, g₁, _, S₁, hx₁, hP⟩
end

set_option linter.unusedVariables false
open PySem PySem.W PySem.Calls PyProof.Rows
set_option Elab.async false
set_option maxRecDepth 100000
set_option maxHeartbeats 0
section
variable {prog : Program} {w : World} {A : Around} {h : Heap} {env : Env} {Q : Value → Heap → Prop}
theorem Wp_BoolAnd {x y : Expr} {rest : List Expr} {pos : Pos} (H : Wp (model prog w) A (eval x env) (fun v h₁ => Wp (model prog w) A (truthy v) (fun b h₂ => (b = true → Wp (model prog w) A (boolOp pos .And (evalEach (y :: rest) env)) Q h₂) ∧ (b = false → Q v h₂)) h₁) h) :
    Wp (model prog w) A (eval (.BoolOp .And (x :: y :: rest) pos) env) Q h := Wp_boolOp_and H
theorem Wp_andOne {x : Expr} {pos : Pos} (H : Wp (model prog w) A (eval x env) Q h) : Wp (model prog w) A (boolOp pos .And (evalEach [x] env)) Q h := Wp_boolOp_one H
theorem Wp_join {t : Sem Bool} {f : Bool → Sem Value} {P : Value → Heap → Prop} (H : Wp (model prog w) A t (fun b h' => Wp (model prog w) A (f b) P h') h) (k : ∀ v h', P v h' → Q v h') : Wp (model prog w) A t (fun b h' => Wp (model prog w) A (f b) Q h') h := H.mono fun _ _ H' => H'.mono k
theorem Wp_eq_bool {a b : Bool} (H : Q (.bool (a == b)) h) : Wp (model prog w) A (compareOp .Eq (.bool a) (.bool b)) Q h := fun s _ hs => PyProof.Rows.eq_bool ⟨Same.rfl' s, hs ▸ H⟩
end
theorem ints_set : ∀ {vs : List Value} {ns : List Int}, IntsAre vs ns → ∀ (i : Nat) (n : Int) (t : Tok), IntsAre (vs.set i (.int n t)) (ns.set i n)
  | _, _, .nil, _, _, _ => .nil
  | _, _, .cons _ _ r, 0, n, t => .cons n t r
  | _, _, .cons m u r, i + 1, n, t => .cons m u (ints_set r i n t)
theorem ci_set (l : List Nat) (i n : Nat) : (ci l).set i (n : Int) = ci (l.set i n) := (List.map_set ..).symm
theorem law3 {prog w} {A : Around} {h₀ : Heap} {a : Addr} {xs : List Value} {ns : List Int} {Q : Value → Heap → Prop}
    (wd : Wd (K3 w) h₀) (hA : Ok A 6) (hl : h₀.IsList a xs.toArray) (hx : IntsAre xs ns) (hlen : ns.length ≤ 63)
    (H : ∀ h', Ext h₀ h' → Q (.bool true) h') :
    Wp (model prog w) A (call (.ref 59) [.ref a] []) Q h₀ := by
  have hxl := hx.length
  refine Wp_enter (K := K3 w) ["script", "first", "count", "mode", "numbers", "degrees", "pairs", "taken", "up", "down", "joins", "due"] [("script", .ref a)]
    [some (.ref a), none, none, none, none, none, none, none, none, none, none, none]
    wd (Ext.refl h₀) (N := []) (by simp) (by simp) hA (by rfl) (by rfl) (fun S => by rfl) (by rfl) (by rfl) (by rfl) (by decide) ?_
  intro e h hsc hext hno hA' S
  repeat walk_at "m"
  refine Wp_join (P := fun (v : Value) h' => ∃ (f : Nat) (t : Tok), v = .int f t ∧ St (K3 w) h₀ e ["script", "first", "count", "mode", "numbers", "degrees", "pairs", "taken", "up", "down", "joins", "due"]
    [some (.ref a), none, none, none, none, none, none, none, none, none, none, none] [] [] h') ?_ ?_
  · refine Wp_tPlain ?_
    repeat walk_at "m"
    refine Wp_truthy_list (isListExt hl S.keep) (by omega) ?_
    cases hb : (!xs.isEmpty) with
    | true =>
      refine Wp_ethen rfl ?_
      have hp : 0 < ns.length := by
        cases xs with
        | nil => simp at hb
        | cons _ _ => simp at hxl; omega
      obtain ⟨tv, hv⟩ := intsAt hx (i := 0) hp
      repeat walk_at "m"
      refine Wp_item_list (isListExt hl S.keep) (by omega) hv (by omega) ?_
      repeat walk_at "m"
      exact ⟨_, _, rfl, S⟩
    | false =>
      refine Wp_eelse rfl ?_
      repeat walk_at "m"
      exact ⟨5, _, rfl, S⟩
  clear S
  rintro v h ⟨f, tf, rfl, S⟩
  repeat walk_at "m"
  rw [show (2 : Int) + (f : Int).fmod 5 = ((2 + f % 5 : Nat) : Int) by rw [Int.fmod_eq_emod_of_nonneg _ (by omega)]; omega] at S
  obtain ⟨c, hc⟩ : ∃ c, c = 2 + f % 5 := ⟨_, rfl⟩
  rw [← hc] at S
  have hc2 : 2 ≤ c := by omega
  have hc6 : c ≤ 6 := by omega
  generalize ((f : Int).fdiv 5).fmod 3 = md at S
  obtain ⟨tc, tm, S⟩ : ∃ tc tm, St (K3 w) h₀ e ["script", "first", "count", "mode", "numbers", "degrees", "pairs", "taken", "up", "down", "joins", "due"]
    [some (.ref a), some (.int f tf), some (.int c tc), some (.int md tm), none, none, none, none, none, none, none, none] [] [] h := ⟨_, _, S⟩
  intro sl h F
  replace S := F.st S; clear F
  refine Wp_item_slice (S.at (.head _)) (isListExt hl S.keep) (.int _ _) .none (by rw [sizeLine_eq]; omega) fun nb h F => ?_
  replace S := F.st S; clear F
  rw [show (1 : Int) = ((1 : Nat) : Int) from rfl, pick_from] at S
  repeat walk_at "m"
  refine Wp_list_list (S.at (.head _)).isList (by rw [sizeLine_eq, List.length_drop]; omega) fun n1 h F => ?_
  replace S := F.st S; clear F
  repeat walk_at "m"
  refine Wp_list_range hA'.hd (S.at (.head _)) (by decide) (by decide) fun n2 h rvs F hrI => ?_
  replace S := F.st S; clear F
  have hrl := hrI.length
  refine Wp_addLists (S.at (by walk_at "mem")).isList (S.at (.head _)).isList (by rw [sizeLine_eq, List.length_drop, hrl]; simp; omega) fun nn h F => ?_
  replace S := F.st S; clear F
  obtain ⟨g1, hg1, hnn, S⟩ := S.freeze
  obtain ⟨nvs, hnv⟩ : ∃ nvs, nvs = List.drop 1 xs ++ rvs := ⟨_, rfl⟩
  obtain ⟨zs, hzI, hzl⟩ : ∃ zs : List Int, IntsAre nvs zs ∧ 15 ≤ zs.length ∧ zs.length ≤ 100 := by
    refine ⟨_, by rw [hnv]; exact IntsAre.append (hx.drop 1) hrI, ?_, ?_⟩
    · simp
    · simp; omega
  rw [← hnv] at hnn
  clear hnv hrl hrI
  have hnvl := hzI.length
  replace S := S.sub (N' := []) (List.nil_sublist _)
  repeat walk_at "m"
  refine Wp_Assign_comp S hsc (by rfl) (by decide) (by rfl) (swaps_of hsc (by rfl)) ?_
  repeat walk_at "m"
  refine Wp_iter_range0 (S.at (.head _)) (by omega) fun I h F => ?_
  replace S := F.st S; clear F
  replace S := S.sub (N' := [(I, (Src.rng 0 c).cn 0)]) (by walk_at "sub")
  refine CompGoal.sel S hA'.hd trivial (by rw [sizeLine_eq]; show c ≤ _; omega) [("count", .int (c : Int) _), ("numbers", .ref nn)] (fun _ => true)
    (fun k y => ∃ t, y = .int (((zs.getD k 0).natAbs % c : Nat) : Int) t) (by rfl)
    (.cons (S.capVar (kindOf_of hsc (by rfl)) (by walk_at "at2")) (.cons (S.capVar (kindOf_of hsc (by rfl)) (by walk_at "at2")) .nil)) ?_ ?_ ?_
  · intro cenv g₃ D₂ ws k v h hsc' hgx' hN hk hv S
    exact Wp_tests_nil ⟨rfl, S⟩
  · intro cenv g₃ D₂ ws k v h hsc' hgx' hN hk hv hp' S
    have hk : k < c := hk
    obtain ⟨tk, rfl⟩ := hv
    simp only [Int.zero_add] at S ⊢
    obtain ⟨tz, hz⟩ := intsAt hzI (i := k) (by omega)
    repeat walk_at "m"
    refine Wp_item_list (isListExt hnn.isList (hgx'.trans S.keep)) (by omega) hz (by omega) ?_
    repeat walk_at "m"
    refine Wp_mod (by omega) fun t => ?_
    refine ⟨⟨t, ?_⟩, S⟩
    rw [Int.fmod_eq_emod_of_nonneg _ (by omega)]; rfl
  intro vs D h hP S
  have hvI : IntsAre vs (ci ((List.range c).map fun k => (zs.getD k 0).natAbs % c)) := by
    have := Paired.ints (f := fun (k : Nat) => (((zs.getD k 0).natAbs % c : Nat) : Int)) hP
    rw [List.filter_eq_self.mpr (fun _ _ => rfl)] at this
    unfold ci
    rw [List.map_map]; exact this
  obtain ⟨dd, hdd, hdl⟩ : ∃ dd : List Nat, IntsAre vs (ci dd) ∧ dd.length = c := ⟨_, hvI, by simp⟩
  clear hP hvI
  refine ⟨_, _, _, _, _, _, S, by walk_at "put2", fun h S => ?_⟩
  repeat walk_at "m"
  refine Wp.mono (Q := fun fl h' => fl = .next ∧ ∃ g D vs dd o7 o8, Ext g1 g ∧ St (K3 w) g e ["script", "first", "count", "mode", "numbers", "degrees", "pairs", "taken", "up", "down", "joins", "due"]
    [some (.ref a), some (.int f tf), some (.int c tc), some (.int md tm), some (.ref nn), some (.ref D), o7, o8, none, none, none, none] [] [(D, .list vs)] h' ∧ IntsAre vs (ci dd) ∧ dd.length = c) ?_ ?_
  · refine Wp_split (fun hb => ?_) (fun hb => ?_)
    · repeat walk_at "m"
      refine Wp_Assign_Name ?_ (swaps_of hsc (by rfl))
      refine Wp_ListComp S hsc (by rfl) (by decide) (by rfl) ?_
      repeat walk_at "m"
      refine Wp_iter_range0 (S.at (.head _)) (by omega) fun I h F => ?_
      replace S := F.st S; clear F
      replace S := S.sub (N' := [(I, (Src.rng 0 c).cn 0)]) (by walk_at "sub")
      have S₀ := S
      obtain ⟨hC, hq⟩ : ∃ hC, hC = h := ⟨h, rfl⟩
      subst hq
      refine CompGoal.twoN S hA'.hd trivial [("count", .int (c : Int) tc)] (fun i => c - (i + 1)) (fun i j v => ∃ t, v = .int ((i + 1 + j : Nat) : Int) t)
        (fun i j ys g => Paired (fun (p : Nat × Nat) v => ∃ a zs, v = .ref a ∧ hC.get? a = none ∧ IsAt g a (.tup zs) ∧ IntsAre zs [(p.1 : Int), (p.2 : Int)]) (pairsTo c i j) ys ∧ (pairsTo c i j).length ≤ 15) (by rfl)
        (.cons (S.capVar (kindOf_of hsc (by rfl)) (by walk_at "at2")) .nil) ?_ (fun _ _ => ⟨.nil, Nat.zero_le _⟩) (fun i ys g hp => by rw [pairsTo_next]; exact hp) (fun i j ys g hp => by rw [sizeLine_eq, ← pr_len hp.1]; omega) ?_ ?_ ?_
      · intro cenv v
        rfl
      · intro cenv g' D₂ ys i v oy h hsc' hgx hN hi hv hP S
        have hi : i < c := hi
        obtain ⟨t, rfl⟩ := hv
        simp only [Int.zero_add] at S ⊢
        repeat walk_at "m"
        refine Wp_iter_range (S.at (.head _)) (small_of (by omega) (by omega) (by omega) (by omega)) fun I₂ h F => ?_
        replace S := F.st S; clear F
        rw [show ((c : Int) - ((i : Int) + 1)).toNat = c - (i + 1) by omega] at S
        replace S := S.sub (N' := [(I₂, (Src.rng ((i : Int) + 1) (c - (i + 1))).cn 0), (I, (Src.rng 0 c).cn (i + 1)), (D₂, .list ys)]) (by walk_at "sub")
        refine ⟨I₂, .rng ((i : Int) + 1) (c - (i + 1)), g', rfl, rfl, fun j v hj => ?_, Ext.refl _, trivial, hP, S⟩
        obtain ⟨t, rfl⟩ := hj
        exact ⟨t, by rw [show ((i : Int) + 1) + (j : Int) = ((i + 1 + j : Nat) : Int) by omega]⟩
      · intro cenv g' D₂ ys i j v v₂ I₂ c₂ h hsc' hxb hgx hN hi hv hj hv₂ hP S
        have hi : i < c := hi
        obtain ⟨t, rfl⟩ := hv
        obtain ⟨t₂, rfl⟩ := hv₂
        simp only [Int.zero_add] at S ⊢
        repeat walk_at "m"
        have f1 := (S.news _ (.head _)).2.2.1
        have f2 : r ≠ I := fun q => by have := S.nodN; simp only [List.map_cons, List.nodup_cons, List.mem_cons] at this; exact this.1 (.inr (.inl q))
        obtain ⟨g₂, hx₂, hat₂, S⟩ := S.freeze
        have hrn : hC.get? r = none := by
          cases q : hC.get? r with
          | none => rfl
          | some o => rw [hxb _ _ f2 q] at f1; cases f1
        refine ⟨g₂, hx₂, ⟨?_, ?_⟩, S⟩
        · rw [pairsTo_succ]
          exact Paired.append' (pr_imp (fun _ _ ⟨a, zs, e1, e2, e3, e4⟩ => ⟨a, zs, e1, e2, e3.ext hx₂, e4⟩) hP.1) (.cons ⟨r, _, rfl, hrn, hat₂, .cons _ _ (.cons _ _ .nil)⟩ .nil)
        · exact pairsTo_15 (by omega) (by omega) (by omega)
      intro ps g'' Dp h₅ hP hgx hg5 hDn hDn' S
      have hP : Paired (fun (p : Nat × Nat) v => ∃ a zs, v = .ref a ∧ hC.get? a = none ∧ IsAt g'' a (.tup zs) ∧ IntsAre zs [(p.1 : Int), (p.2 : Int)]) (pairsTo c c 0) ps ∧ (pairsTo c c 0).length ≤ 15 := hP
      obtain ⟨g₂, hx₂, S, hold⟩ := S₀.rebaseNew S
      obtain ⟨prs, hprs⟩ : ∃ prs, prs = pairsTo c c 0 := ⟨_, rfl⟩
      rw [← hprs] at hP
      obtain ⟨hP, hp15⟩ := hP
      have hPr : Paired (fun (p : Nat × Nat) v => RowT g₂ [(p.1 : Int), (p.2 : Int)] v) prs ps := pr_imp (fun p v ⟨a, zs, e1, e2, ⟨o, ho, r⟩, e4⟩ => ⟨a, zs, e1, ⟨o, hold a o e2 (fun q => by rw [q, hDn] at ho; cases ho) (hg5 _ _ ho), r⟩, e4⟩) hP
      clear hold hP S₀ hgx hg5 hDn hDn' hprs
      have hpl := pr_len hPr
      repeat walk_at "m"
      refine Wp_Assign_Name ?_ (swaps_of hsc (by rfl))
      refine Wp_ListComp S hsc (by rfl) (by decide) (by rfl) ?_
      repeat walk_at "m"
      refine Wp_len_list (S.at (by walk_at "mem")).isList (by omega) fun t => ?_
      repeat walk_at "m"
      refine Wp_iter_range0 (S.at (.head _)) (by omega) fun I h F => ?_
      replace S := F.st S; clear F
      replace S := S.sub (N' := [(I, (Src.rng 0 ps.length).cn 0), (Dp, .list ps)]) (by walk_at "sub")
      rw [← hpl] at S
      refine CompGoal.sel S hA'.hd trivial (by rw [sizeLine_eq]; show prs.length ≤ _; omega) [("numbers", .ref nn), ("pairs", .ref Dp)] (fun k => decide ((zs.getD k 0).fmod 2 = 1)) (fun k y => ps[k]? = some y) (by rfl)
        (.cons (S.capVar (kindOf_of hsc (by rfl)) (by walk_at "at2")) (.cons (S.capVar (kindOf_of hsc (by rfl)) (by walk_at "at2")) .nil)) ?_ ?_ ?_
      · intro cenv g₃ D₂ ws k v h hsc' hgx' hN hk hv S
        have hk : k < prs.length := hk
        obtain ⟨tk, rfl⟩ := hv
        simp only [Int.zero_add] at S ⊢
        obtain ⟨tz, hz⟩ := intsAt hzI (i := k) (by omega)
        refine Wp_tests_one ?_
        repeat walk_at "m"
        refine Wp_item_list (isListExt hnn.isList (hx₂.trans (hgx'.trans S.keep))) (by omega) hz (by omega) ?_
        repeat walk_at "m"
        exact ⟨rfl, S⟩
      · intro cenv g₃ D₂ ws k v h hsc' hgx' hN hk hv hp' S
        have hk : k < prs.length := hk
        obtain ⟨tk, rfl⟩ := hv
        simp only [Int.zero_add] at S ⊢
        obtain ⟨y2, hy2, hr2⟩ := pr_get' hPr _ _ (List.getElem?_eq_getElem hk)
        repeat walk_at "m"
        refine Wp_item_list (isListExt (hN (Dp, .list ps) (by walk_at "mem")).isList S.keep) (by omega) hy2 (by omega) ?_
        exact ⟨hy2, S⟩
      intro ts Dt h hP S
      obtain ⟨ks, hks, hkl, hksl⟩ : ∃ ks : List Nat, Paired (fun k y => ps[k]? = some y) ks ts ∧ (∀ k ∈ ks, k < prs.length) ∧ ks.length ≤ prs.length := ⟨_, hP, fun k hk => List.mem_range.mp (List.mem_filter.mp hk).1, Nat.le_trans (List.length_filter_le ..) (by rw [List.length_range]; exact Nat.le_refl _)⟩
      have hT := pr_sel (0, 0) hPr hkl hks
      have htl := pr_len hks
      generalize ks.map (fun k => prs.getD k (0, 0)) = tss at hT
      repeat walk_at "m"
      refine Wp_Assign_comp S hsc (by rfl) (by decide) (by rfl) (swaps_of hsc (by rfl)) ?_
      repeat walk_at "m"
      refine Wp_iter_range0 (S.at (.head _)) (by omega) fun I h F => ?_
      replace S := F.st S; clear F
      replace S := S.sub (N' := [(I, (Src.rng 0 c).cn 0), (Dt, .list ts)]) (by walk_at "sub")
      have htl2 := pr_len hT
      refine CompGoal.build S hA'.hd trivial [("taken", .ref Dt)] (fun i ys _ => i ≤ c ∧ ∃ l : List Nat, IntsAre ys (ci l) ∧ l.length = i) (by rfl)
        (.cons (S.capVar (kindOf_of hsc (by rfl)) (by walk_at "at2")) .nil) (fun _ _ => ⟨Nat.zero_le _, [], .nil, rfl⟩) (fun i ys g ⟨hi, l, h1, h2⟩ => by rw [sizeLine_eq, h1.length, List.length_map, h2]; omega) ?_ ?_
      · intro cenv g₃ D₂ ys k v h hsc' hgI hgx' hN hk hv hP S
        have hk : k < c := hk
        obtain ⟨tk, rfl⟩ := hv
        simp only [Int.zero_add] at S ⊢
        repeat walk_at "m"
        refine Wp_ListComp S hsc' (by rfl) (by decide) (by rfl) ?_
        repeat walk_at "m"
        refine Wp_iter_list (l := Dt) (xs := ts) (isListExt (hN (Dt, .list ts) (by walk_at "mem")).isList S.keep) fun I₂ h F => ?_
        replace S := F.st S; clear F
        refine CompGoal.sel (src := .lst Dt ts) S hA'.hd (isListExt (hN (Dt, .list ts) (by walk_at "mem")).isList S.keep) (by rw [sizeLine_eq]; show ts.length ≤ _; omega) [("k", .int (k : Int) tk)]
          (fun j => decide ((k : Int) ∈ [((tss.getD j (0, 0)).1 : Int), ((tss.getD j (0, 0)).2 : Int)])) (fun _ _ => True) (by rfl)
          (.cons (S.capVar (kindOf_rel hsc' (by rfl) (by decide)) (by walk_at "at2")) .nil) ?_ ?_ ?_
        · intro cenv₂ g₄ D₃ ws j v h hsc₂ hgx₄ hN₄ hj hv S
          have hj : j < ts.length := hj
          have hv : ts[j]? = some v := hv
          obtain ⟨z, hz, az, zz, rfl, haz, hzi⟩ := pr_get hT j v hv
          refine Wp_tests_one ?_
          repeat walk_at "m"
          refine Wp_in_rowT hA' (haz.ext (hgx'.trans (hgx₄.trans S.keep))) hzi ?_
          repeat walk_at "m"
          refine ⟨?_, S⟩
          rw [show tss.getD j (0, 0) = z by rw [List.getD_eq_getElem?_getD, hz]; rfl]
        · intro cenv₂ g₄ D₃ ws j v h hsc₂ hgx₄ hN₄ hj hv hp' S
          repeat walk_at "m"
          exact ⟨trivial, S⟩
        intro ws D₃ h hP₃ S
        have hwl : ws.length ≤ ts.length := by
          rw [← pr_len hP₃]
          exact Nat.le_trans (List.length_filter_le ..) (by rw [List.length_range]; exact Nat.le_refl _)
        repeat walk_at "m"
        refine Wp_len_list (S.at (.head _)).isList (by omega) fun t => ?_
        obtain ⟨hkc, l, hl1, hl2⟩ := hP
        refine ⟨g₃, Ext.refl _, ⟨hk, l ++ [ws.length], ?_, by rw [List.length_append, hl2]; rfl⟩, S.tail⟩
        unfold ci
        rw [List.map_append]
        exact IntsAre.append hl1 (.cons _ _ .nil)
      intro ys g'' D₂ h₅ hP hgx' hN hg5 hDn hDn' S
      obtain ⟨_, l, hl1, hl2⟩ := hP
      have hl2 : l.length = c := hl2
      refine ⟨_, _, _, _, _, _, S, by walk_at "put2", fun h S => ?_⟩
      repeat walk_at "m"
      exact ⟨rfl, g₂, D₂, ys, l, _, _, hx₂, S.sub (N' := [(D₂, .list ys)]) (by walk_at "sub"), hl1, hl2⟩
    · repeat walk_at "m"
      exact ⟨rfl, g1, D, vs, dd, _, _, Ext.refl _, S, hdd, hdl⟩
  clear S
  rintro fl h ⟨rfl, g, D, vs, dd, o7, o8, hg, S, hdd, hdl⟩
  repeat walk_at "m"
  refine Wp.mono (Q := fun fl h' => fl = .next ∧ ∃ D vs dd o9 o10, St (K3 w) g e ["script", "first", "count", "mode", "numbers", "degrees", "pairs", "taken", "up", "down", "joins", "due"]
    [some (.ref a), some (.int f tf), some (.int c tc), some (.int md tm), some (.ref nn), some (.ref D), o7, o8, o9, o10, none, none] [] [(D, .ilist vs)] h' ∧ IntsAre vs (ci dd) ∧ dd.length = c) ?_ ?_
  · have hvl := hdd.length
    rw [List.length_map] at hvl
    refine Wp_split (fun hb => ?_) (fun hb => ?_)
    · obtain ⟨tz0, hz0⟩ := intsAt hzI (i := 0) (by omega)
      obtain ⟨tz1, hz1⟩ := intsAt hzI (i := 1) (by omega)
      repeat walk_at "m"
      refine Wp_item_list (isListExt hnn.isList (hg.trans S.keep)) (by omega) hz0 (by omega) ?_
      repeat walk_at "m"
      refine Wp_mod (by omega) fun t => ?_
      rw [show (((zs.getD 0 0).natAbs : Nat) : Int).fmod (c : Int) = (((zs.getD 0 0).natAbs % c : Nat) : Int) by rw [Int.fmod_eq_emod_of_nonneg _ (by omega)]; rfl]
      obtain ⟨up, hup⟩ : ∃ up, up = (zs.getD 0 0).natAbs % c := ⟨_, rfl⟩
      have hupl : up < c := by rw [hup]; exact Nat.mod_lt _ (by omega)
      rw [← hup]
      repeat walk_at "m"
      refine Wp_item_list (isListExt hnn.isList (hg.trans S.keep)) (by omega) hz1 (by omega) ?_
      repeat walk_at "m"
      refine Wp_mod (by omega) fun t => ?_
      rw [show (((zs.getD 1 0).natAbs : Nat) : Int).fmod (c : Int) = (((zs.getD 1 0).natAbs % c : Nat) : Int) by rw [Int.fmod_eq_emod_of_nonneg _ (by omega)]; rfl]
      obtain ⟨dn, hdn⟩ : ∃ dn, dn = (zs.getD 1 0).natAbs % c := ⟨_, rfl⟩
      have hdnl : dn < c := by rw [hdn]; exact Nat.mod_lt _ (by omega)
      rw [← hdn]
      repeat walk_at "m"
      obtain ⟨td, hd⟩ := intsAt hdd (i := dn) (by rw [List.length_map]; omega)
      rw [ci_getD] at hd
      refine Wp_item_list (S.at (by walk_at "mem")).isList (by omega) hd (by omega) ?_
      repeat walk_at "m"
      refine Wp_split (fun hb2 => ?_) (fun hb2 => ?_)
      · have hb2 : (0 : Int) < (dd.getD dn 0 : Nat) := of_decide_eq_true hb2
        repeat walk_at "m"
        refine Wp_item_list (S.at (by walk_at "mem")).isList (by omega) hd (by omega) ?_
        repeat walk_at "m"
        rw [show (dd.getD dn 0 : Int) - 1 = ((dd.getD dn 0 - 1 : Nat) : Int) by omega]
        refine Wp_setItem S (D := D) (xs := vs) (.inl (by walk_at "mem")) (by walk_at "lput") (by omega) (by omega) (by omega) fun h S => ?_
        have h2 := ints_set hdd (dn : Int).toNat ((dd.getD dn 0 - 1 : Nat) : Int) t
        rw [ci_set, show (dn : Int).toNat = dn by omega] at h2
        rw [show (dn : Int).toNat = dn by omega] at S
        obtain ⟨d2, hd2, hd2l⟩ : ∃ d2 : List Nat, IntsAre (vs.set dn (.int ((dd.getD dn 0 - 1 : Nat) : Int) t)) (ci d2) ∧ d2.length = c := ⟨_, h2, by rw [List.length_set]; exact hdl⟩
        generalize vs.set dn (.int ((dd.getD dn 0 - 1 : Nat) : Int) t) = v2 at S hd2
        have hvl2 := hd2.length
        rw [List.length_map] at hvl2
        obtain ⟨tu, hu⟩ := intsAt hd2 (i := up) (by rw [List.length_map]; omega)
        rw [ci_getD] at hu
        repeat walk_at "m"
        refine Wp_item_list (S.at (by walk_at "mem")).isIList (by omega) hu (by omega) ?_
        repeat walk_at "m"
        rw [show (d2.getD up 0 : Int) + 1 = ((d2.getD up 0 + 1 : Nat) : Int) by omega]
        refine Wp_setItem S (D := D) (xs := v2) (.inr (by walk_at "mem")) (by walk_at "lput") (by omega) (by omega) (by omega) fun h S => ?_
        have h3 := ints_set hd2 (up : Int).toNat ((d2.getD up 0 + 1 : Nat) : Int) t
        rw [ci_set] at h3
        repeat walk_at "m"
        exact ⟨rfl, D, _, _, _, _, S, h3, by rw [List.length_set]; exact hd2l⟩
      · repeat walk_at "m"
        exact ⟨rfl, D, vs, dd, _, _, S.weakL, hdd, hdl⟩
    · repeat walk_at "m"
      exact ⟨rfl, D, vs, dd, _, _, S.weakL, hdd, hdl⟩
  clear S
  rintro fl h ⟨rfl, D, vs, dd, o9, o10, S, hdd, hdl⟩
  have hvl := hdd.length
  rw [List.length_map] at hvl
  repeat walk_at "m"
  refine Wp_list_list (S.at (by walk_at "mem")).isIList (by rw [sizeLine_eq]; omega) fun Dc h F => ?_
  replace S := F.st S; clear F
  repeat walk_at "m"
  refine joins3 (S.wd.ext S.keep) (hA'.less (by decide)) (S.at (.head _)).isList hdd (by omega) fun vj h' hxx hj => ?_
  obtain ⟨g₂, hg₂, S, hnew⟩ := S.freezeNew hxx
  replace S := S.tail
  repeat walk_at "m"
  refine Wp_isNot (by rcases hj with ⟨rfl, _⟩ | ⟨_, _, _, rfl, _⟩ <;> rfl) ?_
  repeat walk_at "m"
  refine Wp.mono (Q := fun fl h' => fl = .next ∧ St (K3 w) g₂ e ["script", "first", "count", "mode", "numbers", "degrees", "pairs", "taken", "up", "down", "joins", "due"]
    [some (.ref a), some (.int f tf), some (.int c tc), some (.int md tm), some (.ref nn), some (.ref D), o7, o8, o9, o10, some vj, none] [] [(D, .ilist vs)] h') ?_ ?_
  · rcases hj with ⟨rfl, _⟩ | ⟨Dj, jvs, J, rfl, hJo, hDn, hDl, hJR, hJ36⟩
    · repeat walk_at "m"
      exact ⟨rfl, S⟩
    · have hDj : g₂.IsList Dj jvs.toArray := by
        obtain ⟨o, ho, r⟩ := hDl
        exact ⟨o, hnew _ _ hDn ho, r⟩
      have hJr : Paired (fun (x : Nat × Nat) v => RowL g₂ [(x.1 : Int), (x.2 : Int)] v) J jvs := pr_imp (fun p v ⟨a, zs, e1, e2, ⟨o, ho, r⟩, e4⟩ => ⟨a, zs, e1, ⟨o, hnew a o e2 ho, r⟩, e4⟩) hJR
      obtain ⟨G, hdeg⟩ := joins_graph hJo
      clear hnew hJR hDl hDn
      have hjl := pr_len hJr
      repeat walk_at "m"
      refine Wp_ListComp S hsc (by rfl) (by decide) (by rfl) ?_
      repeat walk_at "m"
      refine Wp_iter_list (isListExt hDj S.keep) fun I h F => ?_
      replace S := F.st S; clear F
      refine CompGoal.sel (src := .lst Dj jvs) S hA'.hd (isListExt hDj S.keep) (by rw [sizeLine_eq]; show jvs.length ≤ _; omega) [] (fun _ => false) (fun _ _ => True) (by rfl) .nil ?_ ?_ ?_
      · intro cenv g₃ D₂ ws j v h hsc' hgx' hN hj hv S
        have hv : jvs[j]? = some v := hv
        obtain ⟨x, hx, hxv⟩ := pr_get hJr j v hv
        obtain ⟨ax, tx, ux, rfl, hax⟩ := rowL_two hxv
        have hlt := (G.lt x (List.mem_of_getElem? hx)).1
        refine Wp_tests_one ?_
        repeat walk_at "m"
        refine Wp_item_list (isListExt hax (hgx'.trans S.keep)) (by omega) (x := .int (x.1 : Int) tx) (by rfl) (by omega) ?_
        repeat walk_at "m"
        refine Wp_item_list (isListExt hax (hgx'.trans S.keep)) (by omega) (x := .int (x.2 : Int) ux) (by rfl) (by omega) ?_
        repeat walk_at "m"
        refine ⟨?_, S⟩
        exact beq_false_of_ne (by omega)
      · intro cenv g₃ D₂ ws j v h hsc' hgx' hN hj hv hp' S
        cases hp'
      intro ws D₂ h hP S
      have hw0 : ws = [] := by
        have := pr_len hP
        rw [List.filter_eq_nil_iff.mpr (fun _ _ => Bool.false_ne_true)] at this
        exact List.length_eq_zero_iff.mp this.symm
      subst hw0
      clear hP
      repeat walk_at "m"
      refine Wp_ne_ints hA' (S.at (.tail _ (.head _))).isList (S.at (.head _)).isList .nil .nil ?_
      repeat walk_at "m"
      replace S := S.sub (N' := [(D, .ilist vs)]) (by walk_at "sub")
      refine Wp_len_list (isListExt hDj S.keep) (by omega) fun t => ?_
      repeat walk_at "m"
      refine Wp_ListComp S hsc (by rfl) (by decide) (by rfl) ?_
      repeat walk_at "m"
      refine Wp_len_list (isListExt hDj S.keep) (by omega) fun t => ?_
      repeat walk_at "m"
      refine Wp_iter_range0 (S.at (.head _)) (by omega) fun I h F => ?_
      replace S := F.st S; clear F
      replace S := S.sub (N' := [(I, (Src.rng 0 jvs.length).cn 0), (D, .ilist vs)]) (by walk_at "sub")
      refine CompGoal.sel S hA'.hd trivial (by rw [sizeLine_eq]; show jvs.length ≤ _; omega) [("joins", .ref Dj)] (fun _ => true) (fun _ _ => True) (by rfl)
        (.cons (S.capVar (kindOf_of hsc (by rfl)) (by walk_at "at2")) .nil) ?_ ?_ ?_
      · intro cenv g₃ D₂ ws k v h hsc' hgx' hN hk hv S
        have hk : k < jvs.length := hk
        obtain ⟨tk, rfl⟩ := hv
        simp only [Int.zero_add] at S ⊢
        obtain ⟨y, hy, hyr⟩ := pr_get' hJr k _ (List.getElem?_eq_getElem (by omega))
        refine Wp_tests_one ?_
        repeat walk_at "m"
        refine Wp_item_list (isListExt hDj (hgx'.trans S.keep)) (by omega) hy (by omega) ?_
        repeat walk_at "m"
        intro sl h F
        replace S := F.st S; clear F
        refine Wp_item_slice (S.at (.head _)) (isListExt hDj (hgx'.trans S.keep)) .none (.int _ _) (by rw [sizeLine_eq]; omega) fun L h F => ?_
        replace S := F.st S; clear F
        rw [pick_upto] at S
        refine Wp_notIn_rows hA' (S.at (.head _)).isList (pr_map (f := fun (x : Nat × Nat) => [(x.1 : Int), (x.2 : Int)]) (pr_imp (fun _ _ x => RowL.ext x (hgx'.trans S.keep)) (pr_take k hJr))) (RowL.ext hyr (hgx'.trans S.keep)) ?_
        repeat walk_at "m"
        refine ⟨?_, S.sub (N' := [(I, (Src.rng 0 jvs.length).cn (k + 1)), (D₂, .list ws)]) (by walk_at "sub")⟩
        rw [decide_eq_false]
        · rfl
        · intro hm
          obtain ⟨z, hz, hze⟩ := List.mem_map.mp hm
          have hz' : z = J[k]'(by omega) := by
            injection hze with h1 h2
            injection h2 with h2 _
            exact Prod.ext (by omega) (by omega)
          obtain ⟨i', hi', e⟩ := List.getElem_of_mem hz
          rw [List.getElem_take] at e
          rw [List.length_take] at hi'
          have := (List.getElem_inj G.nd).mp (e.trans hz')
          omega
      · intro cenv g₃ D₂ ws k v h hsc' hgx' hN hk hv hp' S
        have hk : k < jvs.length := hk
        obtain ⟨tk, rfl⟩ := hv
        simp only [Int.zero_add] at S ⊢
        repeat walk_at "m"
        refine Wp_item_list (isListExt hDj (hgx'.trans S.keep)) (by omega) (List.getElem?_eq_getElem (show (k : Int).toNat < jvs.length by omega)) (by omega) ?_
        exact ⟨trivial, S⟩
      intro ws D₂ h hP S
      have hwl : ws.length = jvs.length := by
        have := pr_len hP
        rw [List.filter_eq_self.mpr (fun _ _ => rfl), List.length_range] at this
        exact this.symm
      clear hP
      repeat walk_at "m"
      refine Wp_len_list (S.at (.head _)).isList (by omega) fun t => ?_
      rw [hwl]
      repeat walk_at "m"
      refine Wp_else (by simp) ?_
      replace S := S.tail
      repeat walk_at "m"
      refine Wp_ListComp S hsc (by rfl) (by decide) (by rfl) ?_
      repeat walk_at "m"
      refine Wp_iter_range0 (S.at (.head _)) (by omega) fun I h F => ?_
      replace S := F.st S; clear F
      replace S := S.sub (N' := [(I, (Src.rng 0 c).cn 0), (D, .ilist vs)]) (by walk_at "sub")
      refine CompGoal.build S hA'.hd trivial [("joins", .ref Dj)] (fun i ys _ => i ≤ c ∧ IntsAre ys (ci ((List.range i).map (degE J)))) (by rfl)
        (.cons (S.capVar (kindOf_of hsc (by rfl)) (by walk_at "at2")) .nil) (fun _ _ => ⟨Nat.zero_le _, .nil⟩) (fun i ys g ⟨hi, h1⟩ => by rw [sizeLine_eq, h1.length, List.length_map, List.length_map, List.length_range]; omega) ?_ ?_
      · intro cenv g₃ D₂ ys k v h hsc' hgI hgx' hN hk hv hP S
        have hk : k < c := hk
        obtain ⟨tk, rfl⟩ := hv
        simp only [Int.zero_add] at S ⊢
        repeat walk_at "m"
        refine Wp_ListComp S hsc' (by rfl) (by decide) (by rfl) ?_
        repeat walk_at "m"
        refine Wp_iter_list (l := Dj) (xs := jvs) (isListExt hDj (hgx'.trans S.keep)) fun I₂ h F => ?_
        replace S := F.st S; clear F
        refine CompGoal.sel (src := .lst Dj jvs) S hA'.hd (isListExt hDj (hgx'.trans S.keep)) (by rw [sizeLine_eq]; show jvs.length ≤ _; omega) [("k", .int (k : Int) tk)]
          (fun j => (J.getD j (0, 0)).1 == k || (J.getD j (0, 0)).2 == k) (fun _ _ => True) (by rfl)
          (.cons (S.capVar (kindOf_rel hsc' (by rfl) (by decide)) (by walk_at "at2")) .nil) ?_ ?_ ?_
        · intro cenv₂ g₄ D₃ ws j v h hsc₂ hgx₄ hN₄ hj hv S
          have hj : j < jvs.length := hj
          have hv : jvs[j]? = some v := hv
          obtain ⟨z, hz, az, zz, rfl, haz, hzi⟩ := pr_get hJr j v hv
          refine Wp_tests_one ?_
          repeat walk_at "m"
          refine Wp_in_rowL hA' (isListExt haz (hgx'.trans (hgx₄.trans S.keep))) hzi ?_
          repeat walk_at "m"
          refine ⟨?_, S⟩
          rw [show J.getD j (0, 0) = z by rw [List.getD_eq_getElem?_getD, hz]; rfl]
          rw [Bool.eq_iff_iff]
          simp
          omega
        · intro cenv₂ g₄ D₃ ws j v h hsc₂ hgx₄ hN₄ hj hv hp' S
          repeat walk_at "m"
          exact ⟨trivial, S⟩
        intro ws D₃ h hP₃ S
        have hwl : ws.length = degE J k := by
          rw [← pr_len hP₃]
          have := range_filter_len J (0, 0) fun e => e.1 == k || e.2 == k
          unfold degE
          rw [← this, hjl]
          rfl
        have hdk : degE J k ≤ J.length := List.length_filter_le _ _
        repeat walk_at "m"
        refine Wp_len_list (S.at (.head _)).isList (by omega) fun t => ?_
        obtain ⟨hkc, hl1⟩ := hP
        refine ⟨g₃, Ext.refl _, ⟨hk, ?_⟩, S.tail⟩
        rw [hwl, List.range_succ, List.map_append]
        unfold ci
        rw [List.map_append]
        exact IntsAre.append hl1 (.cons _ _ .nil)
      intro ys g'' D₂ h₅ hP hgx' hN hg5 hDn hDn' S
      have hl1 : IntsAre ys (ci ((List.range c).map (degE J))) := hP.2
      have hle : (List.range c).map (degE J) = dd := by
        refine List.ext_getElem (by simp; omega) fun k h1 h2 => ?_
        rw [List.getElem_map, List.getElem_range, hdeg k h2]
        simp [List.getD_eq_getElem?_getD, h2]
      rw [hle] at hl1
      repeat walk_at "m"
      refine Wp_ne_ints hA' (S.at (.head _)).isList (S.at (.tail _ (.head _))).isIList hl1 hdd ?_
      rw [decide_eq_true rfl]
      repeat walk_at "m"
      exact ⟨rfl, S.tail⟩
  clear S
  rintro fl h ⟨rfl, S⟩
  repeat walk_at "m"
  refine ways3 (S.wd.ext S.keep) (hA'.less (by decide)) (S.at (.head _)).isIList hdd (by omega) fun b h hxx hb => ?_
  replace S := S.grow hxx; clear hxx
  repeat walk_at "m"
  refine Wp_BoolAnd ?_
  repeat walk_at "m"
  refine ineq3 (S.wd.ext S.keep) (hA'.less (by decide)) (S.at (.head _)).isIList hdd (by omega) fun r h hxx hrp hrs => ?_
  replace S := S.grow hxx; clear hxx
  obtain ⟨l1, l2⟩ := law_plain (by omega) (by omega) hrp hrs
  repeat walk_at "m"
  refine Wp_eq_bool ?_
  have hb1 : EGb r = b := Bool.eq_iff_iff.mpr (l1.trans hb.symm)
  rw [hb1, beq_self_eq_true]
  refine Wp_truthy_bool ⟨fun _ => ?_, fun hb => (nomatch hb)⟩
  refine Wp_andOne ?_
  repeat walk_at "m"
  refine Wp_isNot (by rcases hj with ⟨rfl, _⟩ | ⟨_, _, _, rfl, _⟩ <;> rfl) ?_
  repeat walk_at "m"
  refine Wp_eq_bool ?_
  have hb2 : (!(vj == Value.none)) = b := by
    have : (!(vj == Value.none)) = (joinsOf dd).isSome := by
      rcases hj with ⟨rfl, h1⟩ | ⟨_, _, _, rfl, h1, _⟩
      · rw [h1]; rfl
      · rw [h1]; rfl
    rw [this]
    exact Bool.eq_iff_iff.mpr (l2.trans hb.symm)
  rw [hb2, beq_self_eq_true]
  exact H _ (hg1.trans (hg.trans (hg₂.trans S.keep)))

open PySem PySem.W PySem.Calls PyProof.Rows
set_option Elab.async false
set_option maxRecDepth 100000
set_option maxHeartbeats 8000000
theorem fa_law {w : World} {h : Heap} {mg : Str → Option Value} {x : Str} {v u : Value} (KX : (K3 w).In h) (g : h.Ns mainGlobals mg) (hm : mg x = some v) (e : nsIn (K3 w) mainGlobals x = some (some u)) : v = u := by
  have := mg_of KX g e
  rw [hm] at this
  exact Option.some.inj this
end Mine
open Mine
theorem PySem.Challenge.cw_ec5004_03_holds : PySem.Challenge.rw_ec5004_03.Holds :=
  hd3 (by
  k_fill
  intro w s₀ s₁ mg mb G Y fa o pm cd doc dV kV ho hd hcd hD hmg hg args vals as hpre hlay hrd hwl hlo
  have KX := kIn_of Y
  have X := (Ground.X G).1
  have V := (Ground.X G).2
  try w_nolog (first | (have GL := glob_more (Ground.glob G (by first | k_qdec | decide +kernel) (by first | k_qdec | decide +kernel)) V) | (have GL := glob_more (Ground.glob G (by decide +kernel)) V))
  refine Ground.open G ?_
  intro T B D TE TW
  clear ho hD hd hcd
  wrow_args hpre hlay hrd hwl hlo
  all_goals (
    have hfa := fa_law KX T.g hmg (u := .ref 59) (by rfl)
    cases hfa
    have wd : Wd (K3 w) s₁.heap := ⟨KX, T.nolimit, mg, mb, T.g, T.b, T.builtins⟩
    refine Wp.out (Q := fun v h' => v = .bool true ∧ Ext s₁.heap h') (law3 wd ⟨rfl, by decide, by decide⟩ (by assumption) (by assumption) (by omega) (fun h' e => ⟨rfl, e⟩)) rfl ?_
    rintro v s' ⟨h2, tk, rfl⟩ ⟨rfl, ext⟩
    refine GoodW.toG ⟨.inl ⟨_, .bool true, [], rfl, raisesW_false ?_, .bool true, ?_, unshared_nil⟩, ext, rfl, hg⟩
    · wrow_none_raised
    · wrow_post))

