import PyProof.Rows.All
import Wide.All
import OpenK.AllK
import Wide.FinOn
import PySem.Challenge.RW_rx0096_01
open PySem PySem.W PyProof.Rows
set_option Elab.async false
set_option linter.unusedVariables false
set_option maxRecDepth 100000
namespace RxA
section
open PySem.Calls
abbrev Loc := List (Str × Option Value)
abbrev Led := List (Addr × (Obj → Prop))
structure Cx where
  prog : Program
  w : World
  A : Around
  h₀ : Heap
  d : Drawn
  os : OsState
  L : Addr
structure AS where
  l : Loc
  D : Led
  g : Array GenState
structure St (C : Cx) (σ : AS) (s : Shared) : Prop where
  keep : ∀ b o, C.h₀.get? b = some o → s.heap.get? b = some o
  loc : σ.l ≠ [] → (∃ m, s.heap.Ns C.L m ∧ ∀ p ∈ σ.l, m p.1 = p.2) ∧ C.h₀.get? C.L = none ∧ ∀ p ∈ σ.D, p.1 ≠ C.L
  led : ∀ p ∈ σ.D, (∃ o, s.heap.get? p.1 = some o ∧ p.2 o) ∧ C.h₀.get? p.1 = none
  nd : (σ.l.map (·.1)).Nodup
  ord : (σ.D.map (·.1)).Nodup
  drawn : s.drawn = C.d
  os : s.os = C.os
  gens : s.gens = σ.g
def W {α : Type} (C : Cx) (σ : AS) (t : Sem α) (Q : α → AS → Prop) : Prop :=
  ∀ s E, St C σ s → wpAny (model C.prog C.w) C.A t (fun v s' => ∃ σ', Q v σ' ∧ St C σ' s') E s
section
variable {C : Cx} {σ : AS} {s : Shared}
theorem St.toks (H : St C σ s) (t : Nat) : St C σ { s with toks := t } := ⟨H.1, H.2, H.3, H.4, H.5, H.6, H.7, H.8⟩
theorem St.keeps {h' : Heap} (H : St C σ s) (hk : ∀ b o, s.heap.get? b = some o → h'.get? b = some o) (t : Nat) : St C σ { s with heap := h', toks := t } :=
  ⟨fun b o e => hk b o (H.keep b o e), fun hl => let ⟨⟨m, hn, hm⟩, r⟩ := H.loc hl; ⟨⟨m, hn.keeps hk, hm⟩, r⟩, fun p hp => ⟨(let ⟨o, h1, h2⟩ := (H.led p hp).1; ⟨o, hk _ _ h1, h2⟩), (H.led p hp).2⟩, H.nd, H.ord, H.drawn, H.os, H.gens⟩
/-- a new object at the heap's end -/
theorem St.push {P : Obj → Prop} (H : St C σ s) (o : Obj) (hP : P o) (hf : o.isFreed = false := by rfl) : St C ⟨σ.l, (s.heap.objs.size, P) :: σ.D, σ.g⟩ { s with heap := s.heap.push o } := by
  have hk : ∀ b o', s.heap.get? b = some o' → (s.heap.push o).get? b = some o' := fun b o' e => Heap.get?_push_of_some _ e
  have new : C.h₀.get? s.heap.objs.size = none := by
    cases q : C.h₀.get? s.heap.objs.size with
    | none => rfl
    | some o' => exact absurd (Heap.lt_size (H.keep _ _ q)) (Nat.lt_irrefl _)
  refine ⟨fun b o' e => hk b o' (H.keep b o' e), fun hl => ?_, fun p hp => ?_, H.nd, ?_, H.drawn, H.os, H.gens⟩
  · obtain ⟨⟨m, hn, hm⟩, h1, h2⟩ := H.loc hl
    refine ⟨⟨m, hn.keeps hk, hm⟩, h1, fun p hp => ?_⟩
    rcases List.mem_cons.mp hp with rfl | hp
    · exact Nat.ne_of_gt hn.lt
    · exact h2 p hp
  · rcases List.mem_cons.mp hp with rfl | hp
    · exact ⟨⟨o, Heap.get?_push_size _ hf, hP⟩, new⟩
    · exact ⟨(let ⟨o, h1, h2⟩ := (H.led p hp).1; ⟨o, hk _ _ h1, h2⟩), (H.led p hp).2⟩
  · refine List.nodup_cons.mpr ⟨fun hm => ?_, H.ord⟩
    obtain ⟨p, hp, e⟩ := List.mem_map.mp hm
    obtain ⟨o', h1, _⟩ := (H.led p hp).1
    exact Nat.lt_irrefl _ (e ▸ Heap.lt_size h1)
end
/-- l' is l with x bound to v -/
inductive Upd : Loc → Str → Value → Loc → Prop
  | here {x v o l} : Upd ((x, o) :: l) x v ((x, some v) :: l)
  | there {x v p l l'} : Upd l x v l' → Upd (p :: l) x v (p :: l')
theorem Upd.names {l x v l'} (u : Upd l x v l') : l'.map (·.1) = l.map (·.1) := by
  induction u with
  | here => rfl
  | there _ ih => simp [ih]
theorem Upd.mem {l x v l'} (u : Upd l x v l') : ∀ p ∈ l', p = (x, some v) ∨ p ∈ l := by
  induction u with
  | here => intro p hp; rcases List.mem_cons.mp hp with rfl | hp; exact .inl rfl; exact .inr (.tail _ hp)
  | there _ ih => intro p hp; rcases List.mem_cons.mp hp with rfl | hp; exact .inr (.head _); exact (ih p hp).imp id (.tail _)
theorem Upd.new {l x v l'} (u : Upd l x v l') : (x, some v) ∈ l' := by
  induction u with
  | here => exact .head _
  | there _ ih => exact .tail _ ih
theorem nodup_same {α β : Type} {l : List (α × β)} (h : (l.map (·.1)).Nodup) {p q : α × β} (hp : p ∈ l) (hq : q ∈ l) (e : p.1 = q.1) : p = q := by
  induction l with
  | nil => cases hp
  | cons x r ih =>
    rw [List.map_cons, List.nodup_cons] at h
    cases List.mem_cons.mp hp with
    | inl hp =>
      cases List.mem_cons.mp hq with
      | inl hq => rw [hp, hq]
      | inr hq => exact absurd (List.mem_map.mpr ⟨q, hq, by rw [← e, hp]⟩) h.1
    | inr hp =>
      cases List.mem_cons.mp hq with
      | inl hq => exact absurd (List.mem_map.mpr ⟨p, hp, by rw [e, hq]⟩) h.1
      | inr hq => exact ih h.2 hp hq
theorem Upd.ne_nil {l x v l'} (u : Upd l x v l') : l ≠ [] := by cases u <;> simp
theorem Upd.look {l x v l'} (u : Upd l x v l') (nd : (l.map (·.1)).Nodup) {m : Str → Option Value} (hm : ∀ p ∈ l, m p.1 = p.2) : ∀ p ∈ l', (fun y => if y = x then some v else m y) p.1 = p.2 := by
  intro p hp
  have nd' : (l'.map (·.1)).Nodup := by rw [u.names]; exact nd
  by_cases e : p.1 = x
  · have := nodup_same nd' hp u.new e
    subst this; simp
  · simp only [e, if_false]
    rcases u.mem p hp with rfl | h
    · exact absurd rfl e
    · exact hm p h
/-- D' is D with what is said of a turned from P to P' -/
inductive UpdD : Led → Addr → (Obj → Prop) → (Obj → Prop) → Led → Prop
  | here {a P P' D} : UpdD ((a, P) :: D) a P P' ((a, P') :: D)
  | there {a P P' p D D'} : UpdD D a P P' D' → UpdD (p :: D) a P P' (p :: D')
theorem UpdD.names {D a P P' D'} (u : UpdD D a P P' D') : D'.map (·.1) = D.map (·.1) := by
  induction u with
  | here => rfl
  | there _ ih => simp [ih]
theorem UpdD.mem {D a P P' D'} (u : UpdD D a P P' D') : ∀ p ∈ D', p = (a, P') ∨ p ∈ D := by
  induction u with
  | here => intro p hp; rcases List.mem_cons.mp hp with rfl | hp; exact .inl rfl; exact .inr (.tail _ hp)
  | there _ ih => intro p hp; rcases List.mem_cons.mp hp with rfl | hp; exact .inr (.head _); exact (ih p hp).imp id (.tail _)
theorem UpdD.old {D a P P' D'} (u : UpdD D a P P' D') : (a, P) ∈ D := by
  induction u with
  | here => exact .head _
  | there _ ih => exact .tail _ ih
theorem UpdD.new {D a P P' D'} (u : UpdD D a P P' D') : (a, P') ∈ D' := by
  induction u with
  | here => exact .head _
  | there _ ih => exact .tail _ ih
/-- D' is D without a -/
inductive DelD : Led → Addr → Led → Prop
  | here {a P D} : DelD ((a, P) :: D) a D
  | there {a p D D'} : DelD D a D' → DelD (p :: D) a (p :: D')
theorem DelD.sub {D a D'} (u : DelD D a D') : D'.Sublist D := by
  induction u with
  | here => exact List.sublist_cons_self _ _
  | there _ ih => exact ih.cons₂ _
theorem DelD.off {D a D'} (u : DelD D a D') (nd : (D.map (·.1)).Nodup) : ∀ p ∈ D', p.1 ≠ a := by
  induction u with
  | here => intro p hp e; rw [List.map_cons, List.nodup_cons] at nd; exact nd.1 (List.mem_map.mpr ⟨p, hp, e⟩)
  | there u ih =>
    intro p hp e
    rw [List.map_cons, List.nodup_cons] at nd
    rcases List.mem_cons.mp hp with rfl | hp
    · refine nd.1 ?_
      have : ∀ {D a D'}, DelD D a D' → a ∈ D.map (·.1) := by
        intro D a D' u
        induction u with
        | here => simp
        | there _ ih => rw [List.map_cons]; exact .tail _ ih
      rw [e]; exact this u
    · exact ih nd.2 p hp e
theorem DelD.has {D a D'} (u : DelD D a D') : ∃ P, (a, P) ∈ D := by
  induction u with
  | here => exact ⟨_, .head _⟩
  | there _ ih => obtain ⟨P, h⟩ := ih; exact ⟨P, .tail _ h⟩
section
variable {C : Cx} {σ : AS} {s : Shared}
theorem St.store {l' : Loc} {x : Str} {v : Value} {h' : Heap} {m : Str → Option Value} (H : St C σ s) (u : Upd σ.l x v l') (hm : ∀ p ∈ σ.l, m p.1 = p.2)
    (hn : h'.Ns C.L (fun y => if y = x then some v else m y)) (hs : Heap.SameBut C.L s.heap h') (t : Nat) : St C ⟨l', σ.D, σ.g⟩ { s with heap := h', toks := t } := by
  obtain ⟨_, h1, h2⟩ := H.loc u.ne_nil
  refine ⟨fun b o e => (hs.2 b (by rintro rfl; rw [h1] at e; cases e)).trans (H.keep b o e), fun _ => ⟨⟨_, hn, u.look H.nd hm⟩, h1, h2⟩, fun p hp => ⟨(let ⟨o, e1, e2⟩ := (H.led p hp).1; ⟨o, (hs.2 _ (h2 p hp)).trans e1, e2⟩), (H.led p hp).2⟩, by show (l'.map (·.1)).Nodup; rw [u.names]; exact H.nd, H.ord, H.drawn, H.os, H.gens⟩
theorem St.change {D' : Led} {a : Addr} {P P' : Obj → Prop} {o' : Obj} {h' : Heap} (H : St C σ s) (u : UpdD σ.D a P P' D') (hs : Heap.SameBut a s.heap h') (ho : h'.get? a = some o') (hP : P' o') (t : Nat) : St C ⟨σ.l, D', σ.g⟩ { s with heap := h', toks := t } := by
  have za := H.led _ u.old
  have nd' : (D'.map (·.1)).Nodup := by rw [u.names]; exact H.ord
  refine ⟨fun b o e => (hs.2 b (by rintro rfl; rw [za.2] at e; cases e)).trans (H.keep b o e), fun hl => ?_, fun p hp => ?_, H.nd, nd', H.drawn, H.os, H.gens⟩
  · obtain ⟨⟨m, hn, hm⟩, h1, h2⟩ := H.loc hl
    have hLa : C.L ≠ a := fun e => h2 _ u.old e.symm
    refine ⟨⟨m, hn.sameBut hs hLa, hm⟩, h1, fun p hp => ?_⟩
    rcases u.mem p hp with rfl | h
    · exact fun e => hLa e.symm
    · exact h2 p h
  · by_cases e : p.1 = a
    · have := nodup_same nd' hp u.new e
      subst this
      exact ⟨⟨o', ho, hP⟩, za.2⟩
    · rcases u.mem p hp with rfl | h
      · exact absurd rfl e
      · exact ⟨(let ⟨o, h1, h2⟩ := (H.led p h).1; ⟨o, (hs.2 _ e).trans h1, h2⟩), (H.led p h).2⟩
/-- everything but a is as it was -/
theorem St.gone {D' : Led} {a : Addr} {h' : Heap} (H : St C σ s) (u : DelD σ.D a D') (hs : Heap.ExtBut a s.heap h') (t : Nat) : St C ⟨σ.l, D', σ.g⟩ { s with heap := h', toks := t } := by
  obtain ⟨P, ha⟩ := u.has
  have za := H.led _ ha
  have off := u.off H.ord
  refine ⟨fun b o e => hs b o (by rintro rfl; rw [za.2] at e; cases e) (H.keep b o e), fun hl => ?_, fun p hp => ?_, H.nd, H.ord.sublist (u.sub.map _), H.drawn, H.os, H.gens⟩
  · obtain ⟨⟨m, hn, hm⟩, h1, h2⟩ := H.loc hl
    exact ⟨⟨m, hn.extBut hs (fun e => h2 _ ha e.symm), hm⟩, h1, fun p hp => h2 p (u.sub.subset hp)⟩
  · exact ⟨(let ⟨o, h1, h2⟩ := (H.led p (u.sub.subset hp)).1; ⟨o, hs _ _ (off p hp) h1, h2⟩), (H.led p (u.sub.subset hp)).2⟩
theorem St.drop {σ' : AS} (H : St C σ s) (hl : σ'.l = σ.l) (hD : σ'.D.Sublist σ.D) (hg : σ'.g = σ.g) : St C σ' s :=
  ⟨H.keep, fun h => by obtain ⟨a, b, c⟩ := H.loc (hl ▸ h); exact ⟨hl ▸ a, b, fun p hp => c p (hD.subset hp)⟩, fun p hp => H.led p (hD.subset hp), hl ▸ H.nd, H.ord.sublist (hD.map _), H.drawn, H.os, hg ▸ H.gens⟩
end
section
variable {α β : Type} {C : Cx} {σ : AS} {env : Env}
theorem W.pure {a : α} {Q : α → AS → Prop} (h : Q a σ) : W C σ (Pure.pure a : Sem α) Q := fun _ _ H => wpAny_pure ⟨σ, h, H⟩
theorem W.bind {m : Sem α} {f : α → Sem β} {Q : β → AS → Prop} (h : W C σ m fun a σ' => W C σ' (f a) Q) : W C σ (m >>= f) Q := fun s E H =>
  wpAny_bind (wpAny_mono (h s E H) (fun _ s' ⟨_, hq, H'⟩ => hq s' E H') fun _ _ e => e)
theorem W.mono {m : Sem α} {Q Q' : α → AS → Prop} (h : W C σ m Q) (hq : ∀ a σ', Q a σ' → Q' a σ') : W C σ m Q' := fun s E H =>
  wpAny_mono (h s E H) (fun _ _ ⟨σ', q, H'⟩ => ⟨σ', hq _ _ q, H'⟩) fun _ _ e => e
theorem W.weak {σ' : AS} {m : Sem α} {Q : α → AS → Prop} (h : W C σ' m Q) (hl : σ'.l = σ.l) (hD : σ'.D.Sublist σ.D) (hg : σ'.g = σ.g) : W C σ m Q := fun s E H => h s E (H.drop hl hD hg)
/-- a rule of the library whose premise is a W -/
theorem W.comp {m : Sem α} {t : Sem β} {P : α → AS → Prop} {Q : β → AS → Prop} (h : W C σ m P)
    (rule : ∀ s E, wpAny (model C.prog C.w) C.A m (fun a s' => ∃ σ', P a σ' ∧ St C σ' s') E s → wpAny (model C.prog C.w) C.A t (fun v s' => ∃ σ', Q v σ' ∧ St C σ' s') E s) : W C σ t Q :=
  fun s E H => rule s E (h s E H)
theorem W.run {m : Sem α} {Q : α → AS → Prop} {s : Shared} {E : Value → Shared → Prop} (h : W C σ m Q) (H : St C σ s) : wpAny (model C.prog C.w) C.A m (fun v s' => ∃ σ', Q v σ' ∧ St C σ' s') E s := h s E H
end
section
variable {C : Cx} {l : Loc} {D : Led} {g : Array GenState} {env : Env}
-- names
theorem Name_local {x : Str} {pos : Pos} {v : Value} {Q : Value → AS → Prop} (hin : (x, some v) ∈ l) (h : Q v ⟨l, D, g⟩)
    (hL : env.locals = C.L := by rfl) (hk : env.scope.kind = .function := by rfl) (hl : env.kindOf x = some .local := by kernel_rfl) (hd : (x == ("__debug__" : Str)) = false := by kernel_rfl) :
    W C ⟨l, D, g⟩ (eval (.Name x pos) env) Q := fun s E H => by
  obtain ⟨⟨m, hn, hm⟩, _⟩ := H.loc (List.ne_nil_of_mem hin)
  exact wpAny_Name (wpAny_loadName_local hk hl (hL ▸ hn) (hm _ hin) ⟨_, h, H⟩) hd
theorem Store_local {x : Str} {v : Value} {l' : Loc} {Q : Unit → AS → Prop} (u : Upd l x v l') (h : Q () ⟨l', D, g⟩)
    (hL : env.locals = C.L := by rfl) (hk : env.scope.kind = .function := by rfl) (hl : env.kindOf x = some .local := by kernel_rfl) :
    W C ⟨l, D, g⟩ (storeName env x v) Q := fun s E H => by
  obtain ⟨⟨m, hn, hm⟩, _⟩ := H.loc u.ne_nil
  exact wpAny_storeName_local hl (hL ▸ hn) (fun h' hn' hs' => ⟨_, h, H.store u hm (hL ▸ hn') (hL ▸ hs') _⟩) (by rw [hk]; rfl)
-- statements
theorem Execs_nil {Q : Flow → AS → Prop} (h : Q .next ⟨l, D, g⟩) : W C ⟨l, D, g⟩ (execs [] env) Q := fun _ _ H => wpAny_execs_nil ⟨_, h, H⟩
theorem Execs_cons {st : Stmt} {rest : List Stmt} {Q : Flow → AS → Prop} (h : W C ⟨l, D, g⟩ (exec st env) fun f σ' => match f with | .next => W C σ' (execs rest env) Q | f => Q f σ') :
    W C ⟨l, D, g⟩ (execs (st :: rest) env) Q := fun s E H => wpAny_execs_cons (wpAny_mono (h s E H) (fun f s' ⟨σ', q, H'⟩ => by
      cases f <;> first | exact q s' E H' | exact ⟨σ', q, H'⟩) fun _ _ e => e)
theorem Assign_Name {x : Str} {pos' : Pos} {value : Expr} {pos : Pos} {Q : Flow → AS → Prop}
    (h : W C ⟨l, D, g⟩ (eval value env) fun v σ' => W C σ' (storeName env x v) fun _ σ'' => Q .next σ'')
    (hs : swapsWith value (some (.Name x pos')) pos.line env = pure false := by rfl) : W C ⟨l, D, g⟩ (exec (.Assign [.Name x pos'] value pos) env) Q := fun s E H =>
  wpAny_Assign_Name (wpAny_mono (h s E H) (fun v s' ⟨σ', q, H'⟩ => q s' E H') fun _ _ e => e) hs
theorem Return_ {e : Expr} {pos : Pos} {Q : Flow → AS → Prop} (h : W C ⟨l, D, g⟩ (eval e env) fun v σ' => Q (.ret v) σ') : W C ⟨l, D, g⟩ (exec (.Return (some e) pos) env) Q := fun s E H =>
  wpAny_Return_some (h s E H)
theorem BinOp_ {a b : Expr} {op : Operator} {pos : Pos} {Q : Value → AS → Prop} (h : W C ⟨l, D, g⟩ (eval a env) fun v σ' => W C σ' (eval b env) fun u σ'' => W C σ'' (binaryOp op v u) Q) :
    W C ⟨l, D, g⟩ (eval (.BinOp a op b pos) env) Q := fun s E H =>
  wpAny_BinOp (wpAny_mono (h s E H) (fun v s' ⟨σ', q, H'⟩ => wpAny_mono (q s' E H') (fun u s'' ⟨σ'', q', H''⟩ => q' s'' E H'') fun _ _ e => e) fun _ _ e => e)
theorem Const_int {i : Int} {k : Nat} {pos : Pos} {Q : Value → AS → Prop} (h : ∀ t, Q (.int i t) ⟨l, D, g⟩) : W C ⟨l, D, g⟩ (eval (.Constant (.int i) k pos) env) Q := fun s _ H =>
  wpAny_Constant_int ⟨_, h _, H.toks _⟩
theorem And_int {a b : Int} {t u : Tok} {Q : Value → AS → Prop} (h : ∀ t, Q (.int (Builtin.bitAnd a b) t) ⟨l, D, g⟩) : W C ⟨l, D, g⟩ (binaryOp .BitAnd (.int a t) (.int b u)) Q := fun s _ H =>
  and_int ⟨_, h _, H.toks _⟩
end
end
section
open PySem.Calls
/-- room under the limits for k more levels -/
structure Room (A : Around) (k : Nat) : Prop where
  handled : A.handled = none
  depth : A.depth + k ≤ 900
  units : A.units + 4 * k ≤ 9000
theorem Room.deeper {A : Around} {k : Nat} (r : Room A (k + 1)) (env : Env) : Room (A.deeper env) k := ⟨r.handled, by show A.depth + 1 + k ≤ 900; have := r.depth; omega, by show A.units + 3 + 4 * k ≤ 9000; have := r.units; omega⟩
theorem Room.less {A : Around} {k j : Nat} (r : Room A k) (h : j ≤ k) : Room A j := ⟨r.handled, by have := r.depth; omega, by have := r.units; omega⟩
theorem Room.lt {A : Around} {k : Nat} (r : Room A k) : A.depth < recursionLimit := by have := r.depth; show A.depth < 1000; omega
/-- the def called d stands at a -/
structure FnAt (h : Heap) (mg : Str → Option Value) (name : Str) (params : Arguments) (body : List Stmt) (scope : Scope) (a : Addr) : Prop where
  glob : mg name = some (.ref a)
  obj : ∃ o pm cd doc, h.get? a = some o ∧ o.data = .func (docDef name params body scope pm cd doc) ∧ h.CodeRec cd name
theorem FnAt.keeps {h h' : Heap} {mg name params body scope a} (f : FnAt h mg name params body scope a) (hk : ∀ b o, h.get? b = some o → h'.get? b = some o) : FnAt h' mg name params body scope a :=
  ⟨f.glob, let ⟨o, pm, cd, doc, h1, h2, h3⟩ := f.obj; ⟨o, pm, cd, doc, hk _ _ h1, h2, h3.keeps hk⟩⟩
structure Gl (h : Heap) (mg mb : Str → Option Value) : Prop where
  g : h.Ns mainGlobals mg
  b : h.Ns builtinsNs mb
  nolimit : h.NoLimit
theorem Gl.keeps {h h' : Heap} {mg mb} (f : Gl h mg mb) (hk : ∀ b o, h.get? b = some o → h'.get? b = some o) : Gl h' mg mb := ⟨f.g.keeps hk, f.b.keeps hk, f.nolimit.keeps hk⟩
def retVal : Flow → Value
  | .ret v => v
  | _ => .none
section
variable {C C' : Cx} {σ σ' : AS} {s s' : Shared}
theorem St.ret (H : St C σ s) (hC : C'.h₀ = s.heap) (hd : C'.d = s.drawn) (ho : C'.os = s.os) (H' : St C' σ' s') : St C ⟨σ.l, σ'.D ++ σ.D, σ'.g⟩ s' := by
  have hk : ∀ b o, s.heap.get? b = some o → s'.heap.get? b = some o := fun b o e => H'.keep b o (hC ▸ e)
  have fresh : ∀ p ∈ σ'.D, s.heap.get? p.1 = none := fun p hp => hC ▸ (H'.led p hp).2
  refine ⟨fun b o e => hk b o (H.keep b o e), fun hl => ?_, fun p hp => ?_, H.nd, ?_, H'.drawn.trans (hd.trans H.drawn), H'.os.trans (ho.trans H.os), H'.gens⟩
  · obtain ⟨⟨m, hn, hm⟩, h1, h2⟩ := H.loc hl
    refine ⟨⟨m, hn.keeps hk, hm⟩, h1, fun p hp e => ?_⟩
    rcases List.mem_append.mp hp with hp | hp
    · have := fresh p hp
      obtain ⟨o, _, _, ho, _⟩ := hn
      rw [e, ho] at this; cases this
    · exact h2 p hp e
  · rcases List.mem_append.mp hp with hp | hp
    · refine ⟨(H'.led p hp).1, ?_⟩
      cases q : C.h₀.get? p.1 with
      | none => rfl
      | some o => have := fresh p hp; rw [H.keep _ _ q] at this; cases this
    · exact ⟨(let ⟨o, h1, h2⟩ := (H.led p hp).1; ⟨o, hk _ _ h1, h2⟩), (H.led p hp).2⟩
  · show ((σ'.D ++ σ.D).map (·.1)).Nodup
    rw [List.map_append, List.nodup_append]
    refine ⟨H'.ord, H.ord, fun a ha b hb e => ?_⟩
    obtain ⟨p, hp, rfl⟩ := List.mem_map.mp ha
    obtain ⟨q, hq, rfl⟩ := List.mem_map.mp hb
    have := fresh p hp
    obtain ⟨o, h1, _⟩ := (H.led q hq).1
    rw [e, h1] at this; cases this
end
theorem no_size (h : Heap) : h.get? h.objs.size = none := by
  cases q : h.get? h.objs.size with
  | none => rfl
  | some o => exact absurd (Heap.lt_size q) (Nat.lt_irrefl _)
/-- what a callee may lean on -/
structure Sub (C C' : Cx) (σ : AS) (env : Env) : Prop where
  prog : C'.prog = C.prog
  w : C'.w = C.w
  A : C'.A = C.A.deeper env
  keep : ∀ b o, C.h₀.get? b = some o → C'.h₀.get? b = some o
  led : ∀ p ∈ σ.D, ∃ o, C'.h₀.get? p.1 = some o ∧ p.2 o
theorem Call_plain {C : Cx} {σ : AS} {mg mb : Str → Option Value} {name : Str} {params : Arguments} {body : List Stmt} {scope : Scope} {a : Addr} {args : List Value} {binds : List (Str × Value)} {l' : Loc} {k : Nat} {Q : Value → AS → Prop}
    (G : Gl C.h₀ mg mb) (F : FnAt C.h₀ mg name params body scope a) (R : Room C.A (k + 1))
    (hbind : ∀ pm cd doc, bindArgs (docDef name params body scope pm cd doc) ⟨args, []⟩ = pure binds) (hloc : ∀ x ∈ binds, scope.names.lookup x.1 = some .local)
    (hl : ∀ p ∈ l', binds.reverse.lookup p.1 = p.2) (hnd : (l'.map (·.1)).Nodup)
    (h : ∀ (C' : Cx) (cd : Value), Sub C C' σ (envOf name scope C'.L a cd) → Room C'.A k → Gl C'.h₀ mg mb →
      W C' ⟨l', [], σ.g⟩ (execs body (envOf name scope C'.L a cd)) fun f σ' => ∃ D', D'.Sublist σ'.D ∧ Q (retVal f) ⟨σ.l, D' ++ σ.D, σ'.g⟩)
    (hco : scope.isCoroutine = false := by kernel_rfl) (hgen : scope.isGenerator = false := by kernel_rfl) (hk : scope.kind = .function := by kernel_rfl)
    (hcell : ∀ x ∈ scope.names, x.2 ≠ .cell := by decide +kernel) :
    W C σ (call (.ref a) args) Q := fun s E H => by
  obtain ⟨o, pm, cd, doc, h1, h2, h3⟩ := F.obj
  refine wpAny_call (call_plain_ret (params := params) R.lt (H.keep _ _ h1) h2 (G.keeps H.keep).nolimit (h3.keeps H.keep) (hbind pm cd doc) hloc (fun h₁ F₁ => ?_) hco hgen hk hcell)
  let C' : Cx := ⟨C.prog, C.w, C.A.deeper (envOf name scope s.heap.objs.size a cd), s.heap, s.drawn, s.os, s.heap.objs.size⟩
  have sub : Sub C C' σ (envOf name scope C'.L a cd) := ⟨rfl, rfl, rfl, H.keep, fun p hp => (H.led p hp).1⟩
  have st : St C' ⟨l', [], σ.g⟩ { s with heap := h₁, toks := s.toks + binds.length } :=
    ⟨F₁.keep, fun _ => ⟨⟨_, F₁.ns, hl⟩, no_size s.heap, fun _ hp => (nomatch hp)⟩, fun _ hp => (nomatch hp), hnd, List.nodup_nil, rfl, rfl, H.gens⟩
  exact wpAny_mono (h C' cd sub (R.deeper _) (G.keeps H.keep) _ _ st) (fun f s' ⟨σ', ⟨D', hs, q⟩, H'⟩ => ⟨_, q, St.ret (σ' := ⟨σ'.l, D', σ'.g⟩) H rfl rfl rfl (H'.drop rfl hs rfl)⟩) fun _ _ x => x
section
variable {C : Cx} {l : Loc} {D : Led} {g : Array GenState} {env : Env}
theorem Name_global {mg mb : Str → Option Value} {x : Str} {pos : Pos} {v : Value} {Q : Value → AS → Prop} (G : Gl C.h₀ mg mb) (hx : mg x = some v) (h : Q v ⟨l, D, g⟩)
    (hg : env.globals = mainGlobals := by rfl) (hk : env.scope.kind = .function := by kernel_rfl) (hl : env.kindOf x = some .globalImplicit := by kernel_rfl) (hd : (x == ("__debug__" : Str)) = false := by kernel_rfl) :
    W C ⟨l, D, g⟩ (eval (.Name x pos) env) Q := fun s E H => Name_function_global hk hl (loadGlobal_global (hg ▸ (G.keeps H.keep).g) hx ⟨_, h, H⟩) hd
theorem Name_builtin {mg mb : Str → Option Value} {x : Str} {pos : Pos} {v : Value} {Q : Value → AS → Prop} (G : Gl C.h₀ mg mb) (hn : mg x = none) (hx : mb x = some v) (h : Q v ⟨l, D, g⟩)
    (hg : env.globals = mainGlobals := by rfl) (hb : env.builtins = builtinsNs := by rfl) (hk : env.scope.kind = .function := by kernel_rfl) (hl : env.kindOf x = some .globalImplicit := by kernel_rfl) (hd : (x == ("__debug__" : Str)) = false := by kernel_rfl) :
    W C ⟨l, D, g⟩ (eval (.Name x pos) env) Q := fun s E H => Name_function_global hk hl (loadGlobal_builtin (hg ▸ (G.keeps H.keep).g) hn (hb ▸ (G.keeps H.keep).b) hx ⟨_, h, H⟩) hd
theorem Args_nil {pos : Pos} {Q : List Value → AS → Prop} (h : Q [] ⟨l, D, g⟩) : W C ⟨l, D, g⟩ (spliced (backTo pos (starEach [] env))) Q := fun _ _ H => args_nil ⟨_, h, H⟩
theorem Args_cons {e : Expr} {rest : List Expr} {pos : Pos} {Q : List Value → AS → Prop}
    (h : W C ⟨l, D, g⟩ (eval e env) fun v σ' => W C σ' (spliced (backTo pos (starEach rest env))) fun vs σ'' => Q (v :: vs) σ'')
    (he : starEach (e :: rest) env = (false, eval e env) :: starEach rest env := by rfl) : W C ⟨l, D, g⟩ (spliced (backTo pos (starEach (e :: rest) env))) Q := fun s E H =>
  args_cons (wpAny_mono (h s E H) (fun v s' ⟨σ', q, H'⟩ => q s' E H') fun _ _ x => x) he
/-- a call of a def of the text by its name -/
theorem Call_fn {mg mb : Str → Option Value} {name : Str} {params : Arguments} {body : List Stmt} {scope : Scope} {a : Addr} {npos pos : Pos} {e : Expr} {rest : List Expr} {Q : Value → AS → Prop}
    (G : Gl C.h₀ mg mb) (F : FnAt C.h₀ mg name params body scope a)
    (h : W C ⟨l, D, g⟩ (spliced (backTo pos (starEach (e :: rest) env))) fun vs σ' => W C σ' (call (.ref a) vs) Q)
    (hg : env.globals = mainGlobals := by rfl) (hk : env.scope.kind = .function := by kernel_rfl) (hl : env.kindOf name = some .globalImplicit := by kernel_rfl) (hd : (name == ("__debug__" : Str)) = false := by kernel_rfl)
    (hc : eval (.Call (.Name name npos) (e :: rest) [] pos) env = (do callWith pos (← eval (.Name name npos) env) [] (backTo pos (starEach (e :: rest) env)) (backToKw pos (keywordEach [] env))) := by rfl)
    (he : starEach (e :: rest) env = (false, eval e env) :: starEach rest env := by rfl) :
    W C ⟨l, D, g⟩ (eval (.Call (.Name name npos) (e :: rest) [] pos) env) Q := fun s E H => by
  obtain ⟨o, pm, cd, doc, h1, h2, h3⟩ := F.obj
  refine Call_ (Name_function_global hk hl (loadGlobal_global (hg ▸ (G.keeps H.keep).g) F.glob ?_) hd) hc
  refine callWith_def (o := o) h2 (wpAny_mono (h s E H) (fun vs s' ⟨σ', q, H'⟩ => ⟨H'.keep _ _ h1, q s' E H'⟩) fun _ _ x => x) he
/-- a call of a built-in function by its name -/
theorem Call_bi {mg mb : Str → Option Value} {x : Str} {id : String} {npos pos : Pos} {e : Expr} {rest : List Expr} {Q : Value → AS → Prop}
    (G : Gl C.h₀ mg mb) (hn : mg x = none) (hx : mb x = some (.builtin id))
    (h : W C ⟨l, D, g⟩ (spliced (backTo pos (starEach (e :: rest) env))) fun vs σ' => W C σ' (call (.builtin id) vs) Q)
    (hg : env.globals = mainGlobals := by rfl) (hb : env.builtins = builtinsNs := by rfl) (hk : env.scope.kind = .function := by kernel_rfl) (hl : env.kindOf x = some .globalImplicit := by kernel_rfl) (hd : (x == ("__debug__" : Str)) = false := by kernel_rfl)
    (hc : eval (.Call (.Name x npos) (e :: rest) [] pos) env = (do callWith pos (← eval (.Name x npos) env) [] (backTo pos (starEach (e :: rest) env)) (backToKw pos (keywordEach [] env))) := by rfl)
    (he : starEach (e :: rest) env = (false, eval e env) :: starEach rest env := by rfl) (hp : (backTo pos (starEach rest env)).any (·.1) = false := by rfl) :
    W C ⟨l, D, g⟩ (eval (.Call (.Name x npos) (e :: rest) [] pos) env) Q := fun s E H => by
  refine Call_ (Name_function_global hk hl (loadGlobal_builtin (hg ▸ (G.keeps H.keep).g) hn (hb ▸ (G.keeps H.keep).b) hx ?_) hd) hc
  exact PyProof.Rows.callWith_builtin1 (wpAny_mono (h s E H) (fun vs s' ⟨σ', q, H'⟩ => q s' E H') fun _ _ x => x) he hp
end
-- the text's defs
def P : Program := PySem.Challenge.pw_rx0096_01
def stmtAt (n : Nat) : Stmt := P.main.body.getD n (.Pass ⟨0, 0, 0, 0⟩)
def bodyAt (n : Nat) : List Stmt := match stmtAt n with | .FunctionDef _ _ b _ _ _ _ _ _ _ => b | _ => []
def paramsAt (n : Nat) : Arguments := match stmtAt n with | .FunctionDef _ a _ _ _ _ _ _ _ _ => a | _ => { posonlyargs := [], args := [], vararg := none, kwonlyargs := [], kw_defaults := [], kwarg := none, defaults := [] }
def scopeAt (n : Nat) : Scope := match stmtAt n with | .FunctionDef _ _ _ _ _ _ sc _ _ _ => sc | _ => { kind := .function, names := [], isGenerator := false, isCoroutine := false }
def nameAt (n : Nat) : Str := match stmtAt n with | .FunctionDef x _ _ _ _ _ _ _ _ _ => x | _ => Str.ofString ""
abbrev Def (h : Heap) (mg : Str → Option Value) (n : Nat) (x : Str) (a : Addr) : Prop := FnAt h mg x (paramsAt n) (bodyAt n) (scopeAt n) a
set_option maxHeartbeats 400000 in
theorem S_IFMT_call {C : Cx} {l : Loc} {D : Led} {g : Array GenState} {mg mb : Str → Option Value} {a : Addr} {i : Int} {t : Tok} {k : Nat} {Q : Value → AS → Prop} (G : Gl C.h₀ mg mb) (F : Def C.h₀ mg 2 (Str.ofString "S_IFMT") a) (R : Room C.A (k + 1))
    (h : ∀ t, Q (.int (Builtin.bitAnd i 61440) t) ⟨l, D, g⟩) : W C ⟨l, D, g⟩ (call (.ref a) [.int i t]) Q := by
  refine Call_plain (l' := [(Str.ofString "mode", some (.int i t))]) (binds := [(Str.ofString "mode", .int i t)]) G F R (fun _ _ _ => by rfl) (locs (by kernel_rfl)) (by intro p hp; cases List.mem_singleton.mp hp; kernel_rfl) (by simp) ?_
  intro C' cd S R' G'
  have e : bodyAt 2 = bodyAt 2 := rfl
  change W C' _ (execs (_ :: _) _) _
  refine Execs_cons (Return_ (BinOp_ (Name_local (List.Mem.head _) (Const_int fun t => And_int fun t => ?_))))
  exact ⟨[], List.nil_sublist _, h t⟩
end
section
open PySem.Calls
def listP (its : List Value) : Obj → Prop := fun o => ∃ n, o = { cls := .type "list", data := .seq its.toArray n }
def tupP (its : List Value) : Obj → Prop := fun o => o.cls = .type "tuple" ∧ ∃ n, o.data = .seq its.toArray n
def tupIterP (t : Addr) (i : Nat) : Obj → Prop := fun o => o.cls = .type "tuple_iterator" ∧ o.data = .fields #[.ref t, .int i 0]
def listIterP (t : Addr) (i : Nat) : Obj → Prop := fun o => o.cls = .type "list_iterator" ∧ o.data = .fields #[.ref t, .int i 0]
def cellP (v : Option Value) : Obj → Prop := fun o => o.data = .cell v
section
variable {C : Cx} {σ : AS} {s : Shared} {a : Addr} {its : List Value} {P : Obj → Prop}
theorem St.obj (H : St C σ s) (hin : (a, P) ∈ σ.D) : ∃ o, s.heap.get? a = some o ∧ P o := (H.led _ hin).1
theorem St.list (H : St C σ s) (hin : (a, listP its) ∈ σ.D) : s.heap.PlainList a its.toArray := by obtain ⟨o, h, n, rfl⟩ := H.obj hin; exact ⟨n, h⟩
theorem St.tup (H : St C σ s) (hin : (a, tupP its) ∈ σ.D) : s.heap.IsTuple a its.toArray := by obtain ⟨o, h, h1, h2⟩ := H.obj hin; exact ⟨o, h, h1, h2⟩
theorem St.tupIter {t : Addr} {i : Nat} (H : St C σ s) (hin : (a, tupIterP t i) ∈ σ.D) : s.heap.IsTupleIter a t i := by obtain ⟨o, h, h1, h2⟩ := H.obj hin; exact ⟨o, h, h1, h2⟩
theorem St.listIter {t : Addr} {i : Nat} (H : St C σ s) (hin : (a, listIterP t i) ∈ σ.D) : s.heap.IsListIter a t i := by obtain ⟨o, h, h1, h2⟩ := H.obj hin; exact ⟨o, h, h1, h2⟩
theorem St.cell {v : Option Value} (H : St C σ s) (hin : (a, cellP v) ∈ σ.D) : s.heap.IsCell a v := by obtain ⟨o, h, h1⟩ := H.obj hin; exact ⟨o, h, h1⟩
end
def WLoop (C : Cx) (σ : AS) (target : Expr) (it : Value) (body orelse : List Stmt) (env : Env) (Q : Flow → AS → Prop) : Prop :=
  ∀ (s : Shared) (E : Value → Shared → Prop), St C σ s → codeAny (model C.prog C.w) C.A (.forLoop target it body orelse env) (fun r s' => match r with | .ok f => ∃ σ', Q f σ' ∧ St C σ' s' | .error e => E e s') s
section
variable {C : Cx} {σ : AS} {env : Env} {target : Expr} {it : Value} {body orelse : List Stmt} {Q : Flow → AS → Prop}
theorem WLoop.step
    (h : W C σ (pyNext it) fun r σ₁ => match r with
      | none => W C σ₁ (execs orelse env) Q
      | some v => W C σ₁ (letOwnedTupleGo target it v) fun _ σ₂ => W C σ₂ (assign target env v) fun _ σ₃ => W C σ₃ (execs body env) fun f σ₄ => match f with
        | .next => WLoop C σ₄ target it body orelse env Q
        | .cont => WLoop C σ₄ target it body orelse env Q
        | .brk => Q .next σ₄
        | .ret v => Q (.ret v) σ₄) : WLoop C σ target it body orelse env Q := fun s E H => by
  refine codeAny_of_tree ?_
  show wpAny _ C.A ((forTurn target it body orelse env).onRaise (fun x => do noteFrame x env; theTreesLotGoes x)) _ _ s
  refine wpAny_noted ?_
  simp only [forTurn]
  refine wpAny_bind (wpAny_standAt (wpAny_bind (wpAny_onRaise (wpAny_mono (h s _ H) (fun r s₁ h₁ => ?_) fun _ _ h' => wpAny_standAt h'))))
  obtain ⟨σ₁, q, H₁⟩ := h₁
  cases r with
  | none =>
    refine wpAny_pure ⟨rfl, codeAny_block (wpAny_mono (q _ _ H₁) (fun _ _ x => x) fun _ _ x => x)⟩
  | some v =>
    refine wpAny_bind (wpAny_mono (q _ _ H₁) (fun _ s₂ h₂ => ?_) fun _ _ x => x)
    obtain ⟨σ₂, q₂, H₂⟩ := h₂
    refine wpAny_bind (wpAny_mono (q₂ _ _ H₂) (fun _ s₃ h₃ => ?_) fun _ _ x => x)
    obtain ⟨σ₃, q₃, H₃⟩ := h₃
    refine wpAny_bind (wpAny_mono (q₃ _ _ H₃) (fun f s₄ h₄ => ?_) fun _ _ x => x)
    obtain ⟨σ₄, q₄, H₄⟩ := h₄
    cases f with
    | next => exact wpAny_pure ⟨rfl, q₄ _ _ H₄⟩
    | cont => exact wpAny_pure ⟨rfl, q₄ _ _ H₄⟩
    | brk => exact wpAny_pure ⟨σ₄, q₄, H₄⟩
    | ret v => exact wpAny_pure ⟨σ₄, q₄, H₄⟩
theorem For_ {iter : Expr} {pos : Pos} (h : W C σ (eval iter env) fun x σ₁ => W C σ₁ (pyIter x) fun it σ₂ => WLoop C σ₂ target it body orelse env Q)
    (hs : ∀ x, foldedSetIterable iter env x = pure x := by intro _; rfl) : W C σ (exec (.For target iter body orelse pos) env) Q := fun s E H =>
  wpAny_For (wpAny_mono (h s _ H) (fun x s₁ ⟨σ₁, q, H₁⟩ => wpAny_mono (q s₁ _ H₁) (fun it s₂ ⟨σ₂, q₂, H₂⟩ => q₂ s₂ _ H₂) fun _ _ x => x) fun _ _ x => x) hs
end
section
variable {C : Cx} {l : Loc} {D D' : Led} {g : Array GenState} {env : Env} {a : Addr} {its : List Value}
theorem let_plain {x : Str} {p : Pos} {it v : Value} {Q : Unit → AS → Prop} (h : Q () ⟨l, D, g⟩) : W C ⟨l, D, g⟩ (letOwnedTupleGo (.Name x p) it v) Q := fun _ _ H => wpAny_pure ⟨_, h, H⟩
theorem Assign_target {x : Str} {pos : Pos} {v : Value} {Q : Unit → AS → Prop} (h : W C ⟨l, D, g⟩ (storeName env x v) Q) : W C ⟨l, D, g⟩ (assign (.Name x pos) env v) Q := fun s E H => wpAny_assign_Name (h s E H)
-- displays
theorem Args_nilE {pos : Pos} {Q : List Value → AS → Prop} (h : Q [] ⟨l, D, g⟩) : W C ⟨l, D, g⟩ (spliced (backTo pos (starEach [] env))) Q := fun _ _ H => args_nil ⟨_, h, H⟩
theorem List_disp {elts : List Expr} {pos : Pos} {Q : Value → AS → Prop}
    (h : W C ⟨l, D, g⟩ (spliced (backTo pos (starEach elts env))) fun vs σ' => vs.length ≤ sizeLine ∧ ∀ a, Q (.ref a) ⟨σ'.l, (a, listP vs) :: σ'.D, σ'.g⟩) : W C ⟨l, D, g⟩ (eval (.List elts pos) env) Q := fun s E H =>
  List_ (wpAny_mono (h s E H) (fun vs s' ⟨σ', q, H'⟩ => by
    refine wpAny_newObj_type ⟨_, q.2 _, H'.push _ ⟨0, rfl⟩⟩ ?_
    show vs.toArray.size ≤ sizeLine
    rw [List.size_toArray]; exact q.1) fun _ _ x => x)
theorem Tuple_disp {elts : List Expr} {k : Nat} {pos : Pos} {Q : Value → AS → Prop}
    (h : W C ⟨l, D, g⟩ (spliced (backTo pos (starEach elts env))) fun vs σ' => vs.length ≤ sizeLine ∧ ∀ a, Q (.ref a) ⟨σ'.l, (a, tupP vs) :: σ'.D, σ'.g⟩) : W C ⟨l, D, g⟩ (eval (.Tuple elts k pos) env) Q := fun s E H =>
  Tuple_ (wpAny_mono (h s E H) (fun vs s' ⟨σ', q, H'⟩ => by
    refine wpAny_newObj_type ⟨_, q.2 _, H'.push _ ⟨rfl, 0, rfl⟩⟩ ?_
    show vs.toArray.size ≤ sizeLine
    rw [List.size_toArray]; exact q.1) fun _ _ x => x)
-- expression statements, append
theorem Expr_stmt {e : Expr} {pos : Pos} {Q : Flow → AS → Prop} (h : W C ⟨l, D, g⟩ (eval e env) fun v σ' => (∀ b, v ≠ .ref b) ∧ Q .next σ')
    (hi : interactive env = false := by rfl) (hs : swapsWith e none pos.line env = pure false := by rfl) : W C ⟨l, D, g⟩ (exec (.Expr e pos) env) Q := fun s E H =>
  wpAny_Expr (wpAny_mono (h s E H) (fun v s' ⟨σ', q, H'⟩ => by
    cases v with
    | ref b => exact absurd rfl (q.1 b)
    | _ => exact ⟨σ', q.2, H'⟩) fun _ _ x => x) hi hs
theorem Append_ {o e : Expr} {apos pos : Pos} {Q : Value → AS → Prop}
    (h : W C ⟨l, D, g⟩ (eval o env) fun v σ' => ∃ a, v = .ref a ∧ (∃ i1, (a, listP i1) ∈ σ'.D) ∧ W C σ' (eval e env) fun x σ₂ => ∃ its D', its.length ≤ 1000000 ∧ UpdD σ₂.D a (listP its) (listP (its ++ [x])) D' ∧ Q .none ⟨σ₂.l, D', σ₂.g⟩)
    (hbase : attributeBase o (Str.ofString "append") env (eval o env) = eval o env := by rfl) (hs : starEach [e] env = [(false, eval e env)] := by rfl) (hline : (apos.endLine == pos.line) = true := by kernel_rfl) :
    W C ⟨l, D, g⟩ (eval (.Call (.Attribute o (Str.ofString "append") apos) [e] [] pos) env) Q := fun s E H => by
  refine Call_method1 hbase hs hline (wpAny_mono (h s E H) (fun v s' hv => ?_) fun _ _ x => x)
  obtain ⟨σ', ⟨a, rfl, ⟨i1, hin⟩, hq⟩, H'⟩ := hv
  obtain ⟨n, hl⟩ := H'.list hin
  refine ⟨"list", "list.append", F.plainAttrs_list, F.slot_list_append, F.type_list_append, ⟨_, hl, rfl⟩, (fun b e => by cases e; exact ⟨_, hl, rfl⟩), ?_⟩
  refine P.append_list (wpAny_mono (hq s' E H') (fun x s₂ hx => ?_) fun _ _ x => x)
  obtain ⟨σ₂, ⟨its, D', hz, u, q⟩, H₂⟩ := hx
  obtain ⟨n₂, h₂⟩ := H₂.list u.old
  refine ⟨its.toArray, n₂, by rw [List.size_toArray]; exact Nat.le_trans hz (by show _ ≤ 2 ^ 24; omega), h₂, _, q, ?_⟩
  refine H₂.change u (Heap.SameBut.update ..) (o' := { cls := .type "list", data := .seq (its ++ [x]).toArray (n₂ + 1) }) ?_ ⟨_, rfl⟩ s₂.toks
  rw [Heap.get?_update_self _ h₂ rfl]
  show some _ = some _
  simp [Obj.mapSeq]
end
end
section
open PySem.Calls
open AutoSeq1 (wpAny_loadPart')
section
variable {prog : Program} {w : World} {A : Around} {E : Value → Shared → Prop} {s : Shared}
theorem nextOf_tup_item {it t : Addr} {i : Nat} {items : Array Value} {x : Value} {Q : Value → Shared → Prop} (hit : s.heap.IsTupleIter it t i) (ht : s.heap.IsTuple t items) (hx : items[i]? = some x)
    (hQ : ∀ h', h'.IsTupleIter it t (i + 1) → Heap.SameBut it s.heap h' → Q x { s with heap := h' }) : wpAny (model prog w) A (Builtin.SmallTypes.nextOf (.ref it)) Q E s := by
  obtain ⟨o, ho, hc, hd⟩ := id hit
  obtain ⟨ol, hol, _, nl, hdl⟩ := ht
  unfold Builtin.SmallTypes.nextOf
  refine wpAny_bind (wpAny_callSpecial?_slot (name := Str.ofString "__next__") hit.typeIs F.slot_tuple_iterator_next
    (wpAny_call_entry F.slot_tuple_iterator_next hit.typeIs F.entry_tuple_iterator_next ?_ (F.args_tuple_iterator_next_1 _)))
  show wpAny _ _ (field (.ref it) 0 >>= _) _ _ s
  refine wpAny_bind (wpAny_field ho hd (x := .ref t) rfl ?_)
  show wpAny _ _ (if (Value.ref t == Value.none) = true then _ else _) _ _ s
  rw [if_neg (show ¬ ((Value.ref t == Value.none) = true) from Bool.false_ne_true)]
  show wpAny _ _ (field (.ref it) 1 >>= _) _ _ s
  refine wpAny_bind (wpAny_field ho hd (x := .int i 0) rfl ?_)
  show wpAny _ _ (seqItems? (.ref t) >>= _) _ _ s
  refine wpAny_bind (wpAny_seqItems hol hdl ?_)
  simp only [Int.toNat_natCast, hx]
  refine wpAny_bind (wpAny_setField ho hd (by simp) (wpAny_pure ⟨x, rfl, wpAny_pure (hQ _ ?_ (Heap.SameBut.update ..))⟩))
  exact ⟨_, Heap.get?_update_self _ ho (Obj.isFreed_of_fields (Obj.data_mapFields hd _)), (Obj.cls_mapFields ..).trans hc, by rw [Obj.data_mapFields hd]; simp [rawInt]⟩
theorem nextOf_tup_end {it t : Addr} {i : Nat} {items : Array Value} {Q : Value → Shared → Prop} (hh : A.handled = none) (hit : s.heap.IsTupleIter it t i) (ht : s.heap.IsTuple t items) (hx : items[i]? = none)
    (hE : ∀ h' e, Heap.ExtBut it s.heap h' → (∃ o, h'.get? e = some o ∧ o.cls = .type "StopIteration") → E (.ref e) { s with heap := h' }) : wpAny (model prog w) A (Builtin.SmallTypes.nextOf (.ref it)) Q E s := by
  obtain ⟨o, ho, hc, hd⟩ := id hit
  obtain ⟨ol, hol, _, nl, hdl⟩ := ht
  unfold Builtin.SmallTypes.nextOf
  refine wpAny_bind (wpAny_callSpecial?_slot (name := Str.ofString "__next__") hit.typeIs F.slot_tuple_iterator_next
    (wpAny_call_entry F.slot_tuple_iterator_next hit.typeIs F.entry_tuple_iterator_next ?_ (F.args_tuple_iterator_next_1 _)))
  show wpAny _ _ (field (.ref it) 0 >>= _) _ _ s
  refine wpAny_bind (wpAny_field ho hd (x := .ref t) rfl ?_)
  show wpAny _ _ (if (Value.ref t == Value.none) = true then _ else _) _ _ s
  rw [if_neg (show ¬ ((Value.ref t == Value.none) = true) from Bool.false_ne_true)]
  show wpAny _ _ (field (.ref it) 1 >>= _) _ _ s
  refine wpAny_bind (wpAny_field ho hd (x := .int i 0) rfl ?_)
  show wpAny _ _ (seqItems? (.ref t) >>= _) _ _ s
  refine wpAny_bind (wpAny_seqItems hol hdl ?_)
  simp only [Int.toNat_natCast, hx]
  refine wpAny_bind (wpAny_rule (wpAny_bind (wpAny_setField ho hd (by simp) ?_)))
  show wpAny _ _ (newExc (.type "StopIteration") [] >>= _) _ _ _
  refine wpAny_bind ?_
  simp only [newExc, newTuple]
  refine wpAny_bind (wpAny_newObj_type ?_ (by size_fits))
  refine wpAny_bind (m := firstArgMember _ _) (wpAny_of_eq (a := Value.none) (by first | rfl | (simp only [firstArgMember]; rfl)) ?_)
  refine wpAny_newObj_type ?_ (by size_fits)
  simp only [raiseNew]
  refine wpAny_bind (wpAny_handled ?_)
  first | rw [show A.in1.handled = none from hh] | rw [hh]
  refine wpAny_bind (wpAny_pure (wpAny_throw ?_))
  exact hE _ _ (((Heap.SameBut.update ..).extBut.push _).push _) ⟨_, Heap.get?_push_size _ rfl, rfl⟩
end
theorem draws_tup {prog : Program} {w : World} {A : Around} (hh : A.handled = none) (it l : Addr) (hne : l ≠ it) (items : Array Value) :
    Draws prog w A it [it, l] items.size (fun i v => items[i]? = some v) (fun i h => h.IsTupleIter it l i ∧ h.IsTuple l items) where
  live := fun _ _ st => let ⟨o, ho, _⟩ := st.1; ⟨o, ho⟩
  frame := fun _ _ _ st hk => ⟨(let ⟨o, ho, r⟩ := st.1; ⟨o, hk it (by simp) o ho, r⟩), (let ⟨o, ho, r⟩ := st.2; ⟨o, hk l (by simp) o ho, r⟩)⟩
  item := fun i s Q E hi st hQ => by
    refine nextOf_tup_item st.1 st.2 (x := items[i]) (by simp [hi]) fun h' hit' hs' => ?_
    exact hQ _ h' s.toks (by simp [hi]) ⟨hit', st.2.extBut hs'.extBut hne⟩ hs'
  done := fun s Q E st hE => nextOf_tup_end hh st.1 st.2 (by simp) hE
theorem enum_new_tup (l : Addr) (items : Array Value) (ol : Obj) (hc : ol.cls = .type "tuple") (n : Nat) (hd : ol.data = .seq items n) :
    Meets (Builtin.«enumerate.__new__» ⟨[.type "enumerate", .ref l], []⟩) (fun _ R s => s.heap.get? l = some ol ∧
      R (.ok (.ret (.ref (s.heap.push { cls := .type "tuple_iterator", data := .fields #[.ref l, .int 0 0] }).objs.size)))
        { s with heap := (s.heap.push { cls := .type "tuple_iterator", data := .fields #[.ref l, .int 0 0] }).push { cls := .type "enumerate", data := .fields #[.none, .bool false, .ref s.heap.objs.size, rawInt 0, .none, .none] } }) :=
  .of_wp fun prog w A R s h => by
    obtain ⟨hp, g, d, tk, os⟩ := s; obtain ⟨hl, h⟩ := h
    have hsub := sub_enumerate
    have hL : Heap.IsTuple (Shared.heap ⟨hp, g, d, tk, os⟩) l items := ⟨_, hl, hc, n, hd⟩
    wp_walk
    refine wpAny_stack_any fun st => wpAny_pure ?_
    split
    · rename_i c _ _ _ _ _
      cases (c == Value.type "enumerate")
      · wp_walk using wpAny_pyIter_tuple hL
        exact ⟨_, rfl, h⟩
      · wp_walk using wpAny_pyIter_tuple hL
        exact ⟨_, rfl, h⟩
    · wp_walk using wpAny_pyIter_tuple hL
      exact ⟨_, rfl, h⟩
def enumP (it : Addr) (i : Int) : Obj → Prop := fun o => ∃ old, o = { cls := .type "enumerate", dict := none, data := .fields #[.none, .bool false, .ref it, rawInt i, .none, old], slots := #[] }
def enumOutP (it : Addr) (i : Int) (a : Addr) : Obj → Prop := fun o => ∃ item, o = { cls := .type "enumerate", dict := none, data := .fields #[rawInt a, .bool false, .ref it, rawInt i, .none, item], slots := #[] }
section
variable {C : Cx} {l : Loc} {D D' : Led} {g : Array GenState} {env : Env} {a t I : Addr} {its : List Value} {i : Nat}
theorem St.re {σ : AS} {s : Shared} {D' : Led} {h' : Heap} (H : St C σ s) (hk : ∀ b o, C.h₀.get? b = some o → h'.get? b = some o)
    (hL : ∀ o, (∀ p ∈ σ.D, p.1 ≠ C.L) → s.heap.get? C.L = some o → h'.get? C.L = some o)
    (hD : ∀ p ∈ D', (∃ o, h'.get? p.1 = some o ∧ p.2 o) ∧ C.h₀.get? p.1 = none ∧ (s.heap.get? p.1 = none ∨ ∃ q ∈ σ.D, q.1 = p.1)) (nd : (D'.map (·.1)).Nodup) (t : Nat) :
    St C ⟨σ.l, D', σ.g⟩ { s with heap := h', toks := t } := by
  refine ⟨hk, fun hl => ?_, fun p hp => ⟨(hD p hp).1, (hD p hp).2.1⟩, H.nd, nd, H.drawn, H.os, H.gens⟩
  obtain ⟨⟨m, hn, hm⟩, h1, h2⟩ := H.loc hl
  refine ⟨⟨m, hn.at' fun o e => hL o h2 e, hm⟩, h1, fun p hp e => ?_⟩
  rcases (hD p hp).2.2 with h | ⟨q, hq, h⟩
  · obtain ⟨o, _, _, ho, _⟩ := hn
    rw [e, ho] at h; cases h
  · exact h2 q hq (h.trans e)
theorem Iter_tup {Q : Value → AS → Prop} (ht : ∀ s, St C ⟨l, D, g⟩ s → s.heap.IsTuple t its.toArray) (h : ∀ I, Q (.ref I) ⟨l, (I, tupIterP t 0) :: D, g⟩) : W C ⟨l, D, g⟩ (pyIter (.ref t)) Q := fun s E H =>
  wpAny_pyIter_tuple (ht s H) ⟨_, h _, H.push _ ⟨rfl, rfl⟩⟩
theorem Next_tup {x : Value} {Q : Option Value → AS → Prop} (ht : ∀ s, St C ⟨l, D, g⟩ s → s.heap.IsTuple t its.toArray) (hx : its[i]? = some x) (u : UpdD D I (tupIterP t i) (tupIterP t (i + 1)) D') (h : Q (some x) ⟨l, D', g⟩) :
    W C ⟨l, D, g⟩ (pyNext (.ref I)) Q := fun s E H =>
  wpAny_pyNext_tuple_item (H.tupIter u.old) (ht s H) (by simpa using hx) fun h' hit hs => ⟨_, h, by
    obtain ⟨o, ho, h1, h2⟩ := hit
    exact H.change u hs ho ⟨h1, h2⟩ s.toks⟩
theorem Next_tup_end {Q : Option Value → AS → Prop} (hh : C.A.handled = none) (ht : ∀ s, St C ⟨l, D, g⟩ s → s.heap.IsTuple t its.toArray) (hx : its[i]? = none) (hin : (I, tupIterP t i) ∈ D) (u : DelD D I D') (h : Q none ⟨l, D', g⟩) :
    W C ⟨l, D, g⟩ (pyNext (.ref I)) Q := fun s E H =>
  wpAny_pyNext_tuple_end hh (H.tupIter hin) (ht s H) (by simpa using hx) fun h' hs => ⟨_, h, H.gone u hs s.toks⟩
theorem let_tup {elts : List Expr} {k : Nat} {pos : Pos} {v : Value} {Q : Unit → AS → Prop} (hin : (I, tupIterP t i) ∈ D) (h : Q () ⟨l, D, g⟩) : W C ⟨l, D, g⟩ (letOwnedTupleGo (.Tuple elts k pos) (.ref I) v) Q := fun s E H => by
  obtain ⟨o, ho, hc, hd⟩ := H.tupIter hin
  cases v with
  | ref b =>
    unfold letOwnedTupleGo
    refine wpAny_bind (wpAny_load ho ?_)
    rw [hc, hd]
    exact wpAny_pure ⟨_, h, H⟩
  | _ => exact wpAny_pure ⟨_, h, H⟩
theorem Enum_call {Q : Value → AS → Prop} (ht : ∀ s, St C ⟨l, D, g⟩ s → s.heap.IsTuple t its.toArray) (h : ∀ I e, Q (.ref e) ⟨l, (e, enumP I 0) :: (I, tupIterP t 0) :: D, g⟩) : W C ⟨l, D, g⟩ (call (.type "enumerate") [.ref t]) Q := fun s E H => by
  obtain ⟨ol, hol, hc, n, hd⟩ := ht s H
  refine callType_new F.called_enumerate (by decide) (F.typeCall_enumerate_1 _) (F.newCall_enumerate_1 _) (fun obj => F.args_object_init_2 obj _) F.entry_enumerate_new (enum_new_tup t its.toArray ol hc n hd) ⟨hol, ?_⟩
  have H1 := H.push (P := tupIterP t 0) { cls := .type "tuple_iterator", data := .fields #[.ref t, .int 0 0] } ⟨rfl, rfl⟩
  have H2 := H1.push (P := enumP s.heap.objs.size 0) { cls := .type "enumerate", data := .fields #[.none, .bool false, .ref s.heap.objs.size, rawInt 0, .none, .none] } ⟨.none, rfl⟩
  exact ⟨⟨_, Heap.get?_push_size _ rfl, rfl⟩, _, h _ _, H2⟩
end
end
section
open PySem.Calls
section
variable {C : Cx} {l : Loc} {D D' : Led} {g : Array GenState} {env : Env} {a t I e : Addr} {its : List Value} {i : Nat}
theorem Iter_enum {j : Int} {Q : Value → AS → Prop} (hin : (e, enumP I j) ∈ D) (h : Q (.ref e) ⟨l, D, g⟩) : W C ⟨l, D, g⟩ (pyIter (.ref e)) Q := fun s E H => by
  obtain ⟨o, ho, old, rfl⟩ := H.obj hin
  exact wpAny_pyIter_enum (it := I) (i := j) (old := old) ho ⟨_, h, H⟩
theorem Next_enum {x : Value} {Q : Option Value → AS → Prop} (hh : C.A.handled = none) (ht : ∀ s, St C ⟨l, D, g⟩ s → s.heap.IsTuple t its.toArray) (hx : its[i]? = some x) (he : (e, enumP I i) ∈ D) (hI : (I, tupIterP t i) ∈ D)
    (h : ∀ a, ∃ D1 D2, UpdD D e (enumP I i) (enumOutP I ((i : Int) + 1) a) D1 ∧ UpdD D1 I (tupIterP t i) (tupIterP t (i + 1)) D2 ∧ ∀ tk, Q (some (.ref a)) ⟨l, (a, tupP [.int i tk, x]) :: D2, g⟩) :
    W C ⟨l, D, g⟩ (pyNext (.ref e)) Q := fun s E H => by
  obtain ⟨oe, hoe, old, rfl⟩ := H.obj he
  have hit := H.tupIter hI
  have htu := ht s H
  have hei : e ≠ I := by
    rintro rfl
    obtain ⟨o, ho, hc, _⟩ := hit
    rw [hoe] at ho; cases ho; exact absurd (Value.type.inj hc) (by decide)
  have hte : e ≠ t := by
    rintro rfl
    obtain ⟨o, ho, hc, _⟩ := htu
    rw [hoe] at ho; cases ho; exact absurd (Value.type.inj hc) (by decide)
  have hti : t ≠ I := by
    rintro rfl
    obtain ⟨o, ho, hc, _⟩ := htu
    obtain ⟨o', ho', hc', _⟩ := hit
    rw [ho] at ho'; cases ho'; rw [hc] at hc'; exact absurd (Value.type.inj hc') (by decide)
  have hlt : i < its.toArray.size := by
    rw [List.size_toArray]; exact (List.getElem?_eq_some_iff.mp hx).1
  obtain ⟨D1, D2, u1, u2, hq⟩ := h s.heap.objs.size
  refine wpAny_pyNext_enum_itemD (draws_tup (A := C.A.in1) hh I t hti its.toArray) hoe ⟨hit, htu⟩ hlt hei (by simp [hei, hte]) fun x' h' tk hPx hout hst htup hsz hk => ?_
  have hxx : x' = x := by
    have h1 : its[i]? = some x' := by simpa using hPx
    rw [hx] at h1; exact (Option.some.inj h1).symm
  subst hxx
  refine ⟨_, hq tk, ?_⟩
  have ae := (H.led _ he).2
  have aI := (H.led _ hI).2
  have big : ∀ p ∈ D, p.1 < s.heap.objs.size := fun p hp => by obtain ⟨o, ho, _⟩ := (H.led p hp).1; exact Heap.lt_size ho
  have new : C.h₀.get? s.heap.objs.size = none := by
    cases q : C.h₀.get? s.heap.objs.size with
    | none => rfl
    | some o' => exact absurd (Heap.lt_size (H.keep _ _ q)) (Nat.lt_irrefl _)
  have nd1 : (D1.map (·.1)).Nodup := by rw [u1.names]; exact H.ord
  have nd2 : (D2.map (·.1)).Nodup := by rw [u2.names]; exact nd1
  have names2 : ∀ p ∈ D2, ∃ q ∈ D, q.1 = p.1 := fun p hp => by
    have : p.1 ∈ D.map (·.1) := by rw [← u1.names, ← u2.names]; exact List.mem_map.mpr ⟨p, hp, rfl⟩
    obtain ⟨q, hq, e⟩ := List.mem_map.mp this
    exact ⟨q, hq, e⟩
  refine H.re (fun b o eb => hk b o (by rintro rfl; rw [ae] at eb; cases eb) (by rintro rfl; rw [aI] at eb; cases eb) (H.keep b o eb)) (fun o hne eo => hk _ _ (fun q => hne _ he q.symm) (fun q => hne _ hI q.symm) eo) (fun p hp => ?_) ?_ _
  · rcases List.mem_cons.mp hp with rfl | hp
    · refine ⟨⟨_, htup, rfl, _, rfl⟩, new, .inl ?_⟩
      cases q : s.heap.get? s.heap.objs.size with
      | none => rfl
      | some o' => exact absurd (Heap.lt_size q) (Nat.lt_irrefl _)
    · obtain ⟨q, hqD, eq⟩ := names2 p hp
      refine ⟨?_, eq ▸ (H.led q hqD).2, .inr ⟨q, hqD, eq⟩⟩
      by_cases p1 : p.1 = I
      · have := nodup_same nd2 hp u2.new p1
        subst this
        obtain ⟨⟨o, ho, h1, h2⟩, _⟩ := hst
        exact ⟨o, ho, h1, h2⟩
      · by_cases p2 : p.1 = e
        · rcases u2.mem p hp with rfl | hp1
          · exact absurd rfl p1
          · have := nodup_same nd1 hp1 u1.new p2
            subst this
            exact ⟨_, hout, _, rfl⟩
        · rcases u2.mem p hp with rfl | hp1
          · exact absurd rfl p1
          · rcases u1.mem p hp1 with rfl | hp0
            · exact absurd rfl p2
            · obtain ⟨o, ho, h1⟩ := (H.led p hp0).1
              exact ⟨o, hk _ _ p2 p1 ho, h1⟩
  · rw [List.map_cons, List.nodup_cons]
    refine ⟨fun hm => ?_, nd2⟩
    obtain ⟨p, hp, e1⟩ := List.mem_map.mp hm
    obtain ⟨q, hqD, eq⟩ := names2 p hp
    have := big q hqD
    rw [eq, e1] at this
    exact Nat.lt_irrefl _ this
theorem Next_enum_end {Q : Option Value → AS → Prop} (hh : C.A.handled = none) (ht : ∀ s, St C ⟨l, D, g⟩ s → s.heap.IsTuple t its.toArray) (hx : its.length = i) (he : (e, enumP I i) ∈ D) (hI : (I, tupIterP t i) ∈ D) (u : DelD D I D')
    (h : Q none ⟨l, D', g⟩) : W C ⟨l, D, g⟩ (pyNext (.ref e)) Q := fun s E H => by
  obtain ⟨oe, hoe, old, rfl⟩ := H.obj he
  have hit := H.tupIter hI
  have htu := ht s H
  have hti : t ≠ I := by
    rintro rfl
    obtain ⟨o, ho, hc, _⟩ := htu
    obtain ⟨o', ho', hc', _⟩ := hit
    rw [ho] at ho'; cases ho'; rw [hc] at hc'; exact absurd (Value.type.inj hc') (by decide)
  subst hx
  refine wpAny_pyNext_enum_endD (draws_tup (A := C.A.in1) hh I t hti its.toArray) hoe (show _ ∧ _ from by rw [List.size_toArray]; exact ⟨hit, htu⟩) fun h' hs => ⟨_, h, H.gone u hs s.toks⟩
theorem let_enum {elts : List Expr} {k : Nat} {pos : Pos} {j : Int} {Q : Unit → AS → Prop} (u : UpdD D e (enumOutP I j a) (enumP I j) D') (h : Q () ⟨l, D', g⟩) :
    W C ⟨l, D, g⟩ (letOwnedTupleGo (.Tuple elts k pos) (.ref e) (.ref a)) Q := fun s E H => by
  obtain ⟨oe, hoe, item, rfl⟩ := H.obj u.old
  exact wpAny_letOwnedTupleGo_enum hoe fun h' he hs => ⟨_, h, H.change u hs he ⟨_, rfl⟩ s.toks⟩
/-- two names are stored from a pair -/
theorem Assign_pair {x y : Str} {px py pos : Pos} {k : Nat} {v u : Value} {l1 l2 : Loc} {Q : Unit → AS → Prop} (hh : C.A.handled = none) (ht : ∀ s, St C ⟨l, D, g⟩ s → s.heap.IsTuple t #[v, u])
    (u1 : Upd l x v l1) (u2 : Upd l1 y u l2) (h : Q () ⟨l2, D, g⟩)
    (hL : env.locals = C.L := by rfl) (hk : env.scope.kind = .function := by kernel_rfl) (hl1 : env.kindOf x = some .local := by kernel_rfl) (hl2 : env.kindOf y = some .local := by kernel_rfl) :
    W C ⟨l, D, g⟩ (assign (.Tuple [.Name x px, .Name y py] k pos) env (.ref t)) Q := fun s E H => by
  refine wpAny_assign_Tuple hh (ht s H) rfl rfl fun h' he => ?_
  have H' : St C ⟨l, D, g⟩ { s with heap := h', toks := s.toks } := H.keeps (fun b o eb => he b o (Nat.ne_of_lt (Heap.lt_size eb)) eb) _
  refine wpAny_assignInOrder_more (t := assign (.Name x px) env) (ts := [assign (.Name y py) env]) ?_
  refine wpAny_mono (W.run (Assign_target (pos := px) (Store_local u1 (Q := fun _ σ' => σ' = ⟨l1, D, g⟩) rfl hL hk hl1)) H') (fun _ s₁ h₁ => ?_) fun _ _ x => x
  obtain ⟨_, rfl, H₁⟩ := h₁
  refine wpAny_assignInOrder_more ?_
  refine wpAny_mono (W.run (Assign_target (pos := py) (Store_local u2 (Q := fun _ σ' => σ' = ⟨l2, D, g⟩) rfl hL hk hl2)) H₁) (fun _ s₂ h₂ => ?_) fun _ _ x => x
  obtain ⟨_, rfl, H₂⟩ := h₂
  exact wpAny_assignInOrder_none ⟨_, h, H₂⟩
end
end
section
open PySem.Calls
abbrev S (x : String) : Str := Str.ofString x
section
variable {C : Cx} {l : Loc} {D D' : Led} {g : Array GenState} {env : Env}
theorem If_ {test : Expr} {body orelse : List Stmt} {pos : Pos} {Q : Flow → AS → Prop}
    (h : W C ⟨l, D, g⟩ (isTrue test env (eval test env)) fun b σ' => if b = true then W C σ' (execs body env) Q else W C σ' (execs orelse env) Q) : W C ⟨l, D, g⟩ (exec (.If test body orelse pos) env) Q := fun s E H =>
  wpAny_If (wpAny_mono (h s _ H) (fun b s' ⟨σ', q, H'⟩ => by
    cases b with
    | true => exact q s' _ H'
    | false => exact q s' _ H') fun _ _ x => x)
theorem Test_cmp {a b : Expr} {op : CmpOp} {pos : Pos} {whole : Sem Value} {Q : Bool → AS → Prop}
    (h : W C ⟨l, D, g⟩ (eval a env) fun x σ₁ => W C σ₁ (eval b env) fun y σ₂ => W C σ₂ (compareOp op x y) fun c σ₃ => ∃ t, c = .bool t ∧ Q t σ₃) (hm : behindInMarks op b = false := by rfl) :
    W C ⟨l, D, g⟩ (isTrue (.Compare a [op] [b] pos) env whole) Q := fun s E H =>
  wpAny_isTrue_Compare1 (wpAny_mono (h s _ H) (fun x s₁ ⟨σ₁, q₁, H₁⟩ => wpAny_mono (q₁ s₁ _ H₁) (fun y s₂ ⟨σ₂, q₂, H₂⟩ => wpAny_mono (q₂ s₂ _ H₂) (fun c s₃ ⟨σ₃, ⟨t, e, q₃⟩, H₃⟩ => by
    subst e; exact wpAny_truthy_bool ⟨σ₃, q₃, H₃⟩) fun _ _ x => x) fun _ _ x => x) fun _ _ x => x) hm
theorem Cmp_ {a b : Expr} {op : CmpOp} {pos : Pos} {Q : Value → AS → Prop}
    (h : W C ⟨l, D, g⟩ (eval a env) fun x σ₁ => W C σ₁ (eval b env) fun y σ₂ => W C σ₂ (compareOp op x y) Q) (hm : behindInMarks op b = false := by rfl) : W C ⟨l, D, g⟩ (eval (.Compare a [op] [b] pos) env) Q := fun s E H =>
  wpAny_Compare1 (wpAny_mono (h s _ H) (fun x s₁ ⟨σ₁, q₁, H₁⟩ => wpAny_mono (q₁ s₁ _ H₁) (fun y s₂ ⟨σ₂, q₂, H₂⟩ => q₂ s₂ _ H₂) fun _ _ x => x) fun _ _ x => x) hm
theorem Eq_int {a b : Int} {t u : Tok} {Q : Value → AS → Prop} (h : Q (.bool (a == b)) ⟨l, D, g⟩) : W C ⟨l, D, g⟩ (compareOp .Eq (.int a t) (.int b u)) Q := fun _ _ H => PyProof.Rows.eq_int ⟨_, h, H⟩
theorem Ne_int {a b : Int} {t u : Tok} {Q : Value → AS → Prop} (h : Q (.bool (a != b)) ⟨l, D, g⟩) : W C ⟨l, D, g⟩ (compareOp .NotEq (.int a t) (.int b u)) Q := fun _ _ H => PyProof.Rows.ne_int ⟨_, h, H⟩
theorem Lt_int {a b : Int} {t u : Tok} {Q : Value → AS → Prop} (h : Q (.bool (decide (a < b))) ⟨l, D, g⟩) : W C ⟨l, D, g⟩ (compareOp .Lt (.int a t) (.int b u)) Q := fun _ _ H => PyProof.Rows.lt_int ⟨_, h, H⟩
theorem Gt_int {a b : Int} {t u : Tok} {Q : Value → AS → Prop} (h : Q (.bool (decide (b < a))) ⟨l, D, g⟩) : W C ⟨l, D, g⟩ (compareOp .Gt (.int a t) (.int b u)) Q := fun _ _ H => PyProof.Rows.gt_int ⟨_, h, H⟩
theorem Ge_int {a b : Int} {t u : Tok} {Q : Value → AS → Prop} (h : Q (.bool (decide (b ≤ a))) ⟨l, D, g⟩) : W C ⟨l, D, g⟩ (compareOp .GtE (.int a t) (.int b u)) Q := fun _ _ H => PyProof.Rows.ge_int ⟨_, h, H⟩
theorem Break_ {pos : Pos} {Q : Flow → AS → Prop} (hd : D'.Sublist D) (h : Q .brk ⟨l, D', g⟩) : W C ⟨l, D, g⟩ (exec (.Break pos) env) Q := fun _ _ H => wpAny_Break ⟨_, h, H.drop rfl hd rfl⟩
theorem Execs_end {Q : Flow → AS → Prop} (hd : D'.Sublist D) (h : Q .next ⟨l, D', g⟩) : W C ⟨l, D, g⟩ (execs [] env) Q := fun _ _ H => wpAny_execs_nil ⟨_, h, H.drop rfl hd rfl⟩
theorem Const_str {x : Str} {k : Nat} {pos : Pos} {Q : Value → AS → Prop} (h : ∀ t, Q (.str x t) ⟨l, D, g⟩) : W C ⟨l, D, g⟩ (eval (.Constant (.str x) k pos) env) Q := fun s _ H => Calls.Constant_str ⟨_, h _, H.toks _⟩
theorem Const_none {k : Nat} {pos : Pos} {Q : Value → AS → Prop} (h : Q .none ⟨l, D, g⟩) : W C ⟨l, D, g⟩ (eval (.Constant .none k pos) env) Q := fun s _ H => wpAny_Constant_none ⟨_, h, H⟩
theorem Const_bool {b : Bool} {k : Nat} {pos : Pos} {Q : Value → AS → Prop} (h : Q (.bool b) ⟨l, D, g⟩) : W C ⟨l, D, g⟩ (eval (.Constant (.bool b) k pos) env) Q := fun s _ H => wpAny_Constant_bool ⟨_, h, H⟩
/-- a call of a built-in class by its name -/
theorem Call_ty {mg mb : Str → Option Value} {x : Str} {T : String} {npos pos : Pos} {e : Expr} {rest : List Expr} {Q : Value → AS → Prop}
    (G : Gl C.h₀ mg mb) (hn : mg x = none) (hx : mb x = some (.type T))
    (h : W C ⟨l, D, g⟩ (spliced (backTo pos (starEach (e :: rest) env))) fun vs σ' => W C σ' (call (.type T) vs) Q)
    (hg : env.globals = mainGlobals := by rfl) (hb : env.builtins = builtinsNs := by rfl) (hk : env.scope.kind = .function := by kernel_rfl) (hl : env.kindOf x = some .globalImplicit := by kernel_rfl) (hd : (x == ("__debug__" : Str)) = false := by kernel_rfl)
    (hc : eval (.Call (.Name x npos) (e :: rest) [] pos) env = (do callWith pos (← eval (.Name x npos) env) [] (backTo pos (starEach (e :: rest) env)) (backToKw pos (keywordEach [] env))) := by rfl)
    (he : starEach (e :: rest) env = (false, eval e env) :: starEach rest env := by rfl) (hp : (backTo pos (starEach rest env)).any (·.1) = false := by rfl) :
    W C ⟨l, D, g⟩ (eval (.Call (.Name x npos) (e :: rest) [] pos) env) Q := fun s E H => by
  refine Call_ (Name_function_global hk hl (loadGlobal_builtin (hg ▸ (G.keeps H.keep).g) hn (hb ▸ (G.keeps H.keep).b) hx ?_) hd) hc
  exact Pv.callWith_type1 (wpAny_mono (h s E H) (fun vs s' ⟨σ', q, H'⟩ => q s' E H') fun _ _ x => x) he hp
theorem join_small (x : Str) (texts : List Str) (hx : x.length ≤ 4) (ht : ∀ t ∈ texts, t.length ≤ 1000) (hn : texts.length ≤ 1000) : JoinOk x texts = true := by
  have key : ∀ (ts : List Str) (acc : Nat), (∀ t ∈ ts, t.length ≤ 1000) → ts.foldl (· + ·.length + x.length) acc ≤ acc + ts.length * 1004 := by
    intro ts
    induction ts with
    | nil => intro acc _; simp
    | cons t r ih =>
      intro acc h
      have h1 := h t (.head _)
      have := ih (acc + t.length + x.length) fun u hu => h u (.tail _ hu)
      simp only [List.foldl_cons, List.length_cons]
      omega
  unfold JoinOk Builtin.Str.tooLong
  have := key texts 0 ht
  simp only [List.foldl_toArray, Bool.not_eq_true', decide_eq_false_iff_not, gt_iff_lt, Nat.not_lt]
  refine Nat.le_trans this ?_
  show _ ≤ 2 ^ 24
  omega
theorem Join_list {o e : Expr} {x : Str} {apos pos : Pos} {Q : Value → AS → Prop}
    (h : W C ⟨l, D, g⟩ (eval o env) fun v σ₁ => ∃ t, v = .str x t ∧ W C σ₁ (eval e env) fun u σ₂ => ∃ a ts, u = .ref a ∧ (a, listP (strValues ts)) ∈ σ₂.D ∧ JoinOk x (ts.map (·.1)) = true ∧ ∀ t', Q (.str (Txt.join x (ts.map (·.1))) t') σ₂)
    (hbase : attributeBase o (Str.ofString "join") env (eval o env) = eval o env := by rfl) (hs : starEach [e] env = [(false, eval e env)] := by rfl) (hline : (apos.endLine == pos.line) = true := by kernel_rfl) :
    W C ⟨l, D, g⟩ (eval (.Call (.Attribute o (Str.ofString "join") apos) [e] [] pos) env) Q := fun s E H => by
  refine Call_method1 hbase hs hline (wpAny_mono (h s E H) (fun v s' hv => ?_) fun _ _ x => x)
  obtain ⟨σ₁, ⟨t, rfl, q₁⟩, H₁⟩ := hv
  refine SB.join (wpAny_mono (q₁ s' E H₁) (fun u s₂ hu => ?_) fun _ _ x => x)
  obtain ⟨σ₂, ⟨a, ts, rfl, hin, hok, q₂⟩, H₂⟩ := hu
  exact ⟨a, ts, rfl, (H₂.list hin).isList, _, rfl, hok, fun t' k => ⟨σ₂, q₂ t', H₂.toks k⟩⟩
end
end
local macro_rules | `(tactic| walk_at "rx m") => `(tactic| first | exact List.Mem.head _ | (apply List.Mem.tail; walk_at "rx m"))
local macro_rules | `(tactic| walk_at "rx u") => `(tactic| first | exact Upd.here | (apply Upd.there; walk_at "rx u"))
local macro_rules | `(tactic| walk_at "rx ud") => `(tactic| first | exact UpdD.here | (apply UpdD.there; walk_at "rx ud"))
local macro_rules | `(tactic| walk_at "rx d") => `(tactic| first | exact DelD.here | (apply DelD.there; walk_at "rx d"))
local macro_rules | `(tactic| walk_at "rx s") => `(tactic| first | exact List.Sublist.refl _ | (apply List.Sublist.cons_cons; walk_at "rx s") | (apply List.Sublist.cons; walk_at "rx s"))
section
open PySem.Calls
/-- the sign that a row of the table gives -/
def signOf (k : Nat) (m : Int) : List (Int × Nat) → Nat
  | [] => if k = 0 then 63 else 45
  | (b, c) :: r => if (if k = 0 then Builtin.bitAnd m 61440 == b else Builtin.bitAnd m b == b) = true then c else signOf k m r
def ftabs : List (List (Int × Nat)) := [[(40960, 108), (49152, 115), (32768, 45), (24576, 98), (16384, 100), (8192, 99), (4096, 112)], [(256, 114)], [(128, 119)], [(2112, 115), (2048, 83), (64, 120)], [(32, 114)], [(16, 119)], [(1032, 115), (1024, 83), (8, 120)], [(4, 114)], [(2, 119)], [(513, 116), (512, 84), (1, 120)]]
def signsFrom (m : Int) : Nat → List (List (Int × Nat)) → List Nat
  | _, [] => []
  | k, t :: r => signOf k m t :: signsFrom m (k + 1) r
def modeSigns (m : Int) : List Nat := signsFrom m 0 ftabs
def RowAt (h : Heap) (v : Value) (bc : Int × Nat) : Prop := ∃ r t1 t2, v = .ref r ∧ h.IsTuple r #[.int bc.1 t1, .str ⟨#[bc.2]⟩ t2]
def TabAt (h : Heap) (v : Value) (rows : List (Int × Nat)) : Prop := ∃ t vs, v = .ref t ∧ h.IsTuple t vs.toArray ∧ Paired (RowAt h) vs rows
def FileTab (h : Heap) (v : Value) : Prop := ∃ t vs, v = .ref t ∧ h.IsTuple t vs.toArray ∧ Paired (TabAt h) vs ftabs
theorem tup_keeps {h h' : Heap} {a : Addr} {its : Array Value} (x : h.IsTuple a its) (hk : ∀ b o, h.get? b = some o → h'.get? b = some o) : h'.IsTuple a its := let ⟨o, ho, r⟩ := x; ⟨o, hk _ _ ho, r⟩
theorem RowAt.keeps {h h' : Heap} {v bc} (x : RowAt h v bc) (hk : ∀ b o, h.get? b = some o → h'.get? b = some o) : RowAt h' v bc := let ⟨r, t1, t2, e, ht⟩ := x; ⟨r, t1, t2, e, tup_keeps ht hk⟩
theorem paired_imp {α β : Type} {R R' : α → β → Prop} (hi : ∀ a b, R a b → R' a b) : ∀ {l : List α} {m : List β}, Paired R l m → Paired R' l m
  | _, _, .nil => .nil
  | _, _, .cons h t => .cons (hi _ _ h) (paired_imp hi t)
theorem TabAt.keeps {h h' : Heap} {v rows} (x : TabAt h v rows) (hk : ∀ b o, h.get? b = some o → h'.get? b = some o) : TabAt h' v rows :=
  let ⟨t, vs, e, ht, hf⟩ := x; ⟨t, vs, e, tup_keeps ht hk, paired_imp (fun _ _ r => r.keeps hk) hf⟩
theorem FileTab.keeps {h h' : Heap} {v} (x : FileTab h v) (hk : ∀ b o, h.get? b = some o → h'.get? b = some o) : FileTab h' v :=
  let ⟨t, vs, e, ht, hf⟩ := x; ⟨t, vs, e, tup_keeps ht hk, paired_imp (fun _ _ r => r.keeps hk) hf⟩
def innerOf : Stmt → Stmt
  | .For _ _ (s :: _) _ _ => s
  | s => s
def fmInner : Stmt := innerOf ((bodyAt 23).getD 1 (.Pass ⟨0, 0, 0, 0⟩))
abbrev fmLoc (m : Int) (tm : Tok) (p : Addr) (k : Nat) (tk : Tok) (tv : Value) (b c : Option Value) : Loc :=
  [(S "mode", some (.int m tm)), (S "perm", some (.ref p)), (S "index", some (.int k tk)), (S "table", some tv), (S "bit", b), (S "char", c)]
section
variable {C : Cx} {g : Array GenState} {mg mb : Str → Option Value} {fa sa : Addr} {cd : Value} {m : Int} {tm tk : Tok} {p I e I' t : Addr} {k : Nat} {Pe PI : Obj → Prop} {vs : List Value}
set_option maxHeartbeats 1000000 in
theorem fm_inner (G : Gl C.h₀ mg mb) (F : Def C.h₀ mg 2 (S "S_IFMT") sa) (R : Room C.A 1) (ht : C.h₀.IsTuple t vs.toArray)
    {target : Expr} {iter : Expr} {body orelse : List Stmt} {pos : Pos} (hs : fmInner = .For target iter body orelse pos) (its : List Value) (hz : its.length ≤ 100) :
    ∀ (rest : List (Int × Nat)) (j : Nat) (b c : Option Value), Paired (RowAt C.h₀) (vs.drop j) rest →
      WLoop C ⟨fmLoc m tm p k tk (.ref t) b c, [(I, tupIterP t j), (e, Pe), (I', PI), (p, listP its)], g⟩ target (.ref I) body orelse (envOf (S "filemode") (scopeAt 23) C.L fa cd) (fun f σ' => f = .next ∧ ∃ b c tok,
        σ' = ⟨fmLoc m tm p k tk (.ref t) b c, [(e, Pe), (I', PI), (p, listP (its ++ [.str ⟨#[signOf k m rest]⟩ tok]))], g⟩) := by
  cases hs
  intro rest
  induction rest with
  | nil =>
    intro j b c hf
    refine WLoop.step (Next_tup_end (its := vs) R.handled (fun s H => tup_keeps ht H.keep) ?_ (List.Mem.head _) DelD.here ?_)
    · have : vs.drop j = [] := by cases h : vs.drop j with | nil => rfl | cons x r => (rw [h] at hf; cases hf)
      exact List.getElem?_eq_none (List.drop_eq_nil_iff.mp this)
    dsimp only
    refine Execs_cons (If_ (Test_cmp (Name_local (by walk_at "rx m") (Const_int fun t0 => Eq_int ⟨_, rfl, ?_⟩))))
    by_cases hk : k = 0
    · subst hk
      rw [if_pos (by decide)]
      refine Execs_cons (Expr_stmt (Append_ (Name_local (by walk_at "rx m") ⟨p, rfl, ⟨_, by walk_at "rx m"⟩, Const_str fun t1 => ⟨its, _, by omega, by walk_at "rx ud", (fun b e => nomatch e), ?_⟩⟩)))
      refine Execs_nil (Execs_nil ⟨rfl, b, c, t1, rfl⟩)
    · rw [if_neg (by simp; omega)]
      refine Execs_cons (Expr_stmt (Append_ (Name_local (by walk_at "rx m") ⟨p, rfl, ⟨_, by walk_at "rx m"⟩, Const_str fun t1 => ⟨its, _, by omega, by walk_at "rx ud", (fun b e => nomatch e), ?_⟩⟩)))
      refine Execs_nil (Execs_nil ⟨rfl, b, c, t1, ?_⟩)
      simp only [signOf, if_neg hk]; rfl
  | cons bc rest ih =>
    intro j b c hf
    obtain ⟨v, vs', hd, ⟨r, t1, t2, rfl, hr⟩, hf'⟩ : ∃ v vs', vs.drop j = v :: vs' ∧ RowAt C.h₀ v bc ∧ Paired (RowAt C.h₀) vs' rest := by
      cases h : vs.drop j with
      | nil => rw [h] at hf; cases hf
      | cons x r => rw [h] at hf; cases hf with | cons h1 h2 => exact ⟨x, r, rfl, h1, h2⟩
    have hx : vs[j]? = some (.ref r) := by
      have := congrArg (·[0]?) hd
      simpa using this
    have hd' : vs.drop (j + 1) = vs' := by rw [← List.drop_drop, hd]; rfl
    obtain ⟨bit, ch⟩ := bc
    have next : ∀ D', D' = [(I, tupIterP t (j + 1)), (e, Pe), (I', PI), (p, listP its)] → ((if k = 0 then Builtin.bitAnd m 61440 == bit else Builtin.bitAnd m bit == bit) = true → False) →
        WLoop C ⟨fmLoc m tm p k tk (.ref t) (some (.int bit t1)) (some (.str ⟨#[ch]⟩ t2)), D', g⟩ _ (.ref I) _ _ (envOf (S "filemode") (scopeAt 23) C.L fa cd) (fun f σ' => f = .next ∧ ∃ b c tok,
        σ' = ⟨fmLoc m tm p k tk (.ref t) b c, [(e, Pe), (I', PI), (p, listP (its ++ [.str ⟨#[signOf k m ((bit, ch) :: rest)]⟩ tok]))], g⟩) := fun D' e hno => by
      subst e
      have := ih (j + 1) (some (.int bit t1)) (some (.str ⟨#[ch]⟩ t2)) (hd' ▸ hf')
      rw [show signOf k m ((bit, ch) :: rest) = signOf k m rest from by rw [signOf, if_neg hno]]
      exact this
    refine WLoop.step (Next_tup (its := vs) (fun s H => tup_keeps ht H.keep) hx UpdD.here ?_)
    dsimp only
    refine let_tup (List.Mem.head _) (Assign_pair R.handled (fun s H => tup_keeps hr H.keep) (by walk_at "rx u") (by walk_at "rx u") ?_)
    refine Execs_cons (If_ (Test_cmp (Name_local (by walk_at "rx m") (Const_int fun t0 => Eq_int ⟨_, rfl, ?_⟩))))
    by_cases hk : k = 0
    · subst hk
      rw [if_pos (by decide)]
      refine Execs_cons (If_ (Test_cmp (Call_fn G F (Args_cons (Name_local (by walk_at "rx m") (Args_nil (S_IFMT_call G F R fun t3 => Name_local (by walk_at "rx m") (Eq_int ⟨_, rfl, ?_⟩))))))))
      by_cases hb : (Builtin.bitAnd m 61440 == bit) = true
      · rw [if_pos hb]
        refine Execs_cons (Expr_stmt (Append_ (Name_local (by walk_at "rx m") ⟨p, rfl, ⟨_, by walk_at "rx m"⟩, Name_local (by walk_at "rx m") ⟨its, _, by omega, by walk_at "rx ud", (fun b e => nomatch e), ?_⟩⟩)))
        refine Execs_cons (Break_ (List.sublist_cons_self _ _) ⟨rfl, some (.int bit t1), some (.str ⟨#[ch]⟩ t2), t2, ?_⟩)
        rw [signOf, if_pos (by simpa using hb)]
      · rw [if_neg hb]
        refine Execs_nil (Execs_nil (Execs_nil ?_))
        exact next _ rfl (by simpa using hb)
    · rw [if_neg (by simp; omega)]
      refine Execs_cons (If_ (Test_cmp (BinOp_ (Name_local (by walk_at "rx m") (Name_local (by walk_at "rx m") (And_int fun t3 => Name_local (by walk_at "rx m") (Eq_int ⟨_, rfl, ?_⟩)))))))
      by_cases hb : (Builtin.bitAnd m bit == bit) = true
      · rw [if_pos hb]
        refine Execs_cons (Expr_stmt (Append_ (Name_local (by walk_at "rx m") ⟨p, rfl, ⟨_, by walk_at "rx m"⟩, Name_local (by walk_at "rx m") ⟨its, _, by omega, by walk_at "rx ud", (fun b e => nomatch e), ?_⟩⟩)))
        refine Execs_cons (Break_ (List.sublist_cons_self _ _) ⟨rfl, some (.int bit t1), some (.str ⟨#[ch]⟩ t2), t2, ?_⟩)
        rw [signOf, if_pos (by simpa [hk] using hb)]
      · rw [if_neg hb]
        refine Execs_nil (Execs_nil (Execs_nil ?_))
        exact next _ rfl (by simpa [hk] using hb)
end
end
section
open PySem.Calls
theorem WLoop.mono {C : Cx} {σ : AS} {target : Expr} {it : Value} {body orelse : List Stmt} {env : Env} {Q Q' : Flow → AS → Prop} (h : WLoop C σ target it body orelse env Q) (hq : ∀ f σ', Q f σ' → Q' f σ') :
    WLoop C σ target it body orelse env Q' := fun s E H => codeAny_mono (h s E H) fun r s' hr => by
  cases r with
  | ok f => obtain ⟨σ', q, H'⟩ := hr; exact ⟨σ', hq _ _ q, H'⟩
  | error e => exact hr
abbrev fmLocO (m : Int) (tm : Tok) (p : Addr) (x y b c : Option Value) : Loc :=
  [(S "mode", some (.int m tm)), (S "perm", some (.ref p)), (S "index", x), (S "table", y), (S "bit", b), (S "char", c)]
def fmOuter : Stmt := (bodyAt 23).getD 1 (.Pass ⟨0, 0, 0, 0⟩)
def strOf (c : Nat) : Str := ⟨#[c]⟩
section
variable {C : Cx} {g : Array GenState} {mg mb : Str → Option Value} {fa sa : Addr} {cd : Value} {m : Int} {tm tk : Tok} {p I e T : Addr} {VS : List Value}
set_option maxHeartbeats 1000000 in
theorem fm_outer (G : Gl C.h₀ mg mb) (F : Def C.h₀ mg 2 (S "S_IFMT") sa) (R : Room C.A 1) (hT : C.h₀.IsTuple T VS.toArray)
    {target : Expr} {iter : Expr} {body orelse : List Stmt} {pos : Pos} (hs : fmOuter = .For target iter body orelse pos) :
    ∀ (rest : List (List (Int × Nat))) (k : Nat) (its : List Value) (x y b c : Option Value), its.length = k → k + rest.length ≤ 100 → k ≤ VS.length → Paired (TabAt C.h₀) (VS.drop k) rest →
      WLoop C ⟨fmLocO m tm p x y b c, [(e, enumP I (k : Int)), (I, tupIterP T k), (p, listP its)], g⟩ target (.ref e) body orelse (envOf (S "filemode") (scopeAt 23) C.L fa cd) (fun f σ' => f = .next ∧ ∃ x y b c ts,
        ts.map (·.1) = (signsFrom m k rest).map strOf ∧ σ' = ⟨fmLocO m tm p x y b c, [(p, listP (its ++ strValues ts))], g⟩) := by
  cases hs
  intro rest
  induction rest with
  | nil =>
    intro k its x y b c hl hk hkv hf
    have hz : VS.drop k = [] := by cases h : VS.drop k with | nil => rfl | cons x r => (rw [h] at hf; cases hf)
    have hlen : VS.length = k := Nat.le_antisymm (List.drop_eq_nil_iff.mp hz) hkv
    refine WLoop.step (Next_enum_end (its := VS) R.handled (fun s H => tup_keeps hT H.keep) hlen (by walk_at "rx m") (by walk_at "rx m") (by walk_at "rx d") ?_)
    dsimp only
    exact Execs_end (List.sublist_cons_self _ _) ⟨rfl, x, y, b, c, [], rfl, by simp [strValues]⟩
  | cons rows rest ih =>
    intro k its x y b c hl hk hkv hf
    obtain ⟨v, vs', hd, ⟨t, vs, rfl, ht, hrows⟩, hf'⟩ : ∃ v vs', VS.drop k = v :: vs' ∧ TabAt C.h₀ v rows ∧ Paired (TabAt C.h₀) vs' rest := by
      cases h : VS.drop k with
      | nil => rw [h] at hf; cases hf
      | cons x r => rw [h] at hf; cases hf with | cons h1 h2 => exact ⟨x, r, rfl, h1, h2⟩
    have hx : VS[k]? = some (.ref t) := by
      have := congrArg (·[0]?) hd
      simpa using this
    have hd' : VS.drop (k + 1) = vs' := by rw [← List.drop_drop, hd]; rfl
    rw [List.length_cons] at hk
    refine WLoop.step (Next_enum (its := VS) R.handled (fun s H => tup_keeps hT H.keep) hx (by walk_at "rx m") (by walk_at "rx m") fun a => ⟨_, _, UpdD.here, by walk_at "rx ud", fun tk => ?_⟩)
    dsimp only
    refine let_enum (by walk_at "rx ud") ?_
    refine Assign_pair R.handled (fun s H => H.tup (by walk_at "rx m")) (by walk_at "rx u") (by walk_at "rx u") ?_
    refine W.weak (σ' := ⟨_, [(e, enumP I ((k : Int) + 1)), (I, tupIterP T (k + 1)), (p, listP its)], g⟩) ?_ rfl (List.sublist_cons_self _ _) rfl
    refine Execs_cons (For_ (Name_local (by walk_at "rx m") (Iter_tup (its := vs) (fun s H => tup_keeps ht H.keep) fun I2 => ?_)))
    refine WLoop.mono (fm_inner (k := k) (vs := vs) G F R ht (by rfl) its (by omega) rows 0 b c hrows) ?_
    rintro f σ' ⟨rfl, b', c', tok, rfl⟩
    refine Execs_nil ?_
    have := ih (k + 1) (its ++ [.str ⟨#[signOf k m rows]⟩ tok]) (some (.int k tk)) (some (.ref t)) b' c' (by simp [hl]) (by omega) (List.getElem?_eq_some_iff.mp hx).1 (hd' ▸ hf')
    refine WLoop.mono this ?_
    rintro f σ' ⟨rfl, x', y', b'', c'', ts, hts, rfl⟩
    refine ⟨rfl, x', y', b'', c'', (⟨#[signOf k m rows]⟩, tok) :: ts, ?_, ?_⟩
    · simp only [List.map_cons, signsFrom, hts]; rfl
    · simp only [strValues, List.map_cons, List.append_assoc, List.singleton_append]
end
theorem text_join (l : List Nat) : Txt.join (S "") (l.map strOf) = ⟨l.toArray⟩ := by
  have h0 : S "" = (⟨#[]⟩ : Str) := by decide +kernel
  rw [h0]
  cases l with
  | nil => rfl
  | cons c r =>
    show (⟨(r.map strOf).foldl (fun acc p => acc ++ (#[] : Array Nat) ++ p.cps) (strOf c).cps⟩ : Str) = _
    have key : ∀ (r : List Nat) (acc : Array Nat), (r.map strOf).foldl (fun acc p => acc ++ (#[] : Array Nat) ++ p.cps) acc = acc ++ r.toArray := by
      intro r
      induction r with
      | nil => intro acc; simp
      | cons d r ih => intro acc; rw [List.map_cons, List.foldl_cons, ih]; simp [strOf]
    rw [key]
    simp [strOf]
set_option maxHeartbeats 1000000 in
theorem filemode_call {C : Cx} {l : Loc} {D : Led} {g : Array GenState} {mg mb : Str → Option Value} {fa sa : Addr} {tv : Value} {m : Int} {t : Tok} {k : Nat} {Q : Value → AS → Prop} (G : Gl C.h₀ mg mb) (F : Def C.h₀ mg 23 (S "filemode") fa)
    (F2 : Def C.h₀ mg 2 (S "S_IFMT") sa) (hn : mg (S "enumerate") = none) (hb : mb (S "enumerate") = some (.type "enumerate")) (hT : mg (S "_filemode_table") = some tv) (hF : FileTab C.h₀ tv) (R : Room C.A (k + 2))
    (h : ∀ t, Q (.str ⟨(modeSigns m).toArray⟩ t) ⟨l, D, g⟩) : W C ⟨l, D, g⟩ (call (.ref fa) [.int m t]) Q := by
  refine Call_plain (l' := [(S "mode", some (.int m t)), (S "perm", none), (S "index", none), (S "table", none), (S "bit", none), (S "char", none)]) (binds := [(S "mode", .int m t)]) G F R (fun _ _ _ => by rfl) (locs (by kernel_rfl)) ?_ (by simp only [List.map_cons, List.map_nil]; decide +kernel) ?_
  · intro p hp
    simp only [List.mem_cons, List.not_mem_nil, or_false] at hp
    rcases hp with rfl | rfl | rfl | rfl | rfl | rfl <;> kernel_rfl
  intro C' cd Su R' G'
  obtain ⟨T, VS, rfl, hTt, hTs⟩ := hF.keeps Su.keep
  change W C' _ (execs (_ :: _ :: _) _) _
  refine Execs_cons (Assign_Name (List_disp (Args_nil ⟨by decide, fun p => ?_⟩)))
  refine Store_local (by walk_at "rx u") (Execs_cons (For_ (Call_ty G' hn hb (Args_cons (Name_global G' hT (Args_nil (Enum_call (its := VS) (fun s H => tup_keeps hTt H.keep) fun I e => Iter_enum (by walk_at "rx m") ?_)))))))
  refine WLoop.mono (fm_outer G' (F2.keeps Su.keep) (R'.less (by omega)) hTt (by rfl) ftabs 0 [] none none none none rfl (by decide) (Nat.zero_le _) (by simpa using hTs)) ?_
  rintro f σ' ⟨rfl, x, y, b, c, ts, hts, rfl⟩
  refine Execs_cons (Return_ (Join_list (x := S "") (Const_str fun t0 => ⟨t0, rfl, Name_local (by walk_at "rx m") ⟨p, ts, rfl, by walk_at "rx m", ?_, fun t' => ?_⟩⟩)))
  · rw [hts]
    refine join_small _ _ (by decide) ?_ ?_
    · intro t ht
      obtain ⟨c, _, rfl⟩ := List.mem_map.mp ht
      show 1 ≤ 1000
      omega
    · simp [signsFrom, ftabs]
  · rw [hts, text_join]
    exact ⟨[], List.nil_sublist _, h t'⟩
end
section
open PySem.Calls
abbrev compOf (elt target iter : Expr) (ifs : List Expr) (scope : Scope) (pos : Pos) : Expr := .ListComp elt [⟨target, iter, ifs, 0⟩] scope pos
def WComp (C : Cx) (σ : AS) (e : Expr) (it acc : Value) (env : Env) (Q : AS → Prop) : Prop :=
  ∀ (s : Shared) (E : Value → Shared → Prop), St C σ s → codeAny (model C.prog C.w) C.A (.compLoop e 0 it acc env) (fun r s' => match r with | .ok _ => ∃ σ', Q σ' ∧ St C σ' s' | .error x => E x s') s
theorem WComp.mono {C : Cx} {σ : AS} {e : Expr} {it acc : Value} {env : Env} {Q Q' : AS → Prop} (h : WComp C σ e it acc env Q) (hq : ∀ σ', Q σ' → Q' σ') : WComp C σ e it acc env Q' := fun s E H => codeAny_mono (h s E H) fun r s' hr => by
  cases r with
  | ok f => obtain ⟨σ', q, H'⟩ := hr; exact ⟨σ', hq _ q, H'⟩
  | error e => exact hr
section
variable {C : Cx} {σ : AS} {elt target iter : Expr} {ifs : List Expr} {scope : Scope} {pos : Pos} {it acc : Value} {env : Env} {Q : AS → Prop}
/-- a turn of a comprehension: ifs is empty or holds one test -/
theorem WComp.step0
    (h : W C σ (pyNext it) fun r σ₁ => match r with
      | none => Q σ₁
      | some v => W C σ₁ (letOwnedTupleGo target it v) fun _ σ₂ => W C σ₂ (assign target env v) fun _ σ₃ => W C σ₃ (eval elt env) fun x σ₅ =>
          ∃ a its D', acc = .ref a ∧ its.length ≤ 1000000 ∧ UpdD σ₅.D a (listP its) (listP (its ++ [x])) D' ∧ WComp C ⟨σ₅.l, D', σ₅.g⟩ (compOf elt target iter [] scope pos) it acc env Q) :
    WComp C σ (compOf elt target iter [] scope pos) it acc env Q := fun s E H => by
  refine codeAny_of_tree ?_
  show wpAny _ C.A ((compTurn (.ListComp elt [⟨target, iter, [], 0⟩] scope pos) 0 it acc env).onRaise (fun x => do noteFrame x env; theTreesLotGoes x)) _ _ s
  refine wpAny_noted ?_
  rw [compTurn_list1]
  refine wpAny_bind (wpAny_standAt (wpAny_bind (wpAny_mono (h s _ H) (fun r s₁ h₁ => ?_) fun _ _ x => x)))
  obtain ⟨σ₁, q₁, H₁⟩ := h₁
  cases r with
  | none => exact wpAny_pure ⟨σ₁, q₁, H₁⟩
  | some v =>
    refine wpAny_bind (wpAny_mono (q₁ s₁ _ H₁) (fun _ s₂ h₂ => ?_) fun _ _ x => x)
    obtain ⟨σ₂, q₂, H₂⟩ := h₂
    refine wpAny_bind (wpAny_mono (q₂ s₂ _ H₂) (fun _ s₃ h₃ => ?_) fun _ _ x => x)
    obtain ⟨σ₃, q₃, H₃⟩ := h₃
    refine wpAny_bind (wpAny_bind (wpAny_mono (q₃ s₃ _ H₃) (fun x s₅ h₅ => ?_) fun _ _ x => x))
    obtain ⟨σ₅, ⟨a, its, D', rfl, hz, u, q₅⟩, H₅⟩ := h₅
    refine wpAny_bind (wpAny_list_append_plain (H₅.list u.old) (fun h' hl hs => ?_) (by rw [List.size_toArray]; exact Nat.le_trans hz (by show _ ≤ 2 ^ 24; omega)))
    refine wpAny_pure (wpAny_pure ⟨rfl, q₅ _ _ ?_⟩)
    obtain ⟨n, hl⟩ := hl
    exact H₅.change u hs hl ⟨n, by simp⟩ s₅.toks
theorem WComp.step1 {c : Expr}
    (h : W C σ (pyNext it) fun r σ₁ => match r with
      | none => Q σ₁
      | some v => W C σ₁ (letOwnedTupleGo target it v) fun _ σ₂ => W C σ₂ (assign target env v) fun _ σ₃ => W C σ₃ (isTrue c env (eval c env)) fun ok σ₄ =>
          if ok = true then W C σ₄ (eval elt env) fun x σ₅ => ∃ a its D', acc = .ref a ∧ its.length ≤ 1000000 ∧ UpdD σ₅.D a (listP its) (listP (its ++ [x])) D' ∧ WComp C ⟨σ₅.l, D', σ₅.g⟩ (compOf elt target iter [c] scope pos) it acc env Q
          else WComp C σ₄ (compOf elt target iter [c] scope pos) it acc env Q) :
    WComp C σ (compOf elt target iter [c] scope pos) it acc env Q := fun s E H => by
  refine codeAny_of_tree ?_
  show wpAny _ C.A ((compTurn (.ListComp elt [⟨target, iter, [c], 0⟩] scope pos) 0 it acc env).onRaise (fun x => do noteFrame x env; theTreesLotGoes x)) _ _ s
  refine wpAny_noted ?_
  rw [compTurn_list]
  refine wpAny_bind (wpAny_standAt (wpAny_bind (wpAny_mono (h s _ H) (fun r s₁ h₁ => ?_) fun _ _ x => x)))
  obtain ⟨σ₁, q₁, H₁⟩ := h₁
  cases r with
  | none => exact wpAny_pure ⟨σ₁, q₁, H₁⟩
  | some v =>
    refine wpAny_bind (wpAny_mono (q₁ s₁ _ H₁) (fun _ s₂ h₂ => ?_) fun _ _ x => x)
    obtain ⟨σ₂, q₂, H₂⟩ := h₂
    refine wpAny_bind (wpAny_mono (q₂ s₂ _ H₂) (fun _ s₃ h₃ => ?_) fun _ _ x => x)
    obtain ⟨σ₃, q₃, H₃⟩ := h₃
    refine wpAny_bind (wpAny_tests_one (wpAny_mono (q₃ s₃ _ H₃) (fun ok s₄ h₄ => ?_) fun _ _ x => x))
    obtain ⟨σ₄, q₄, H₄⟩ := h₄
    cases ok with
    | false => exact wpAny_pure ⟨rfl, q₄ s₄ _ H₄⟩
    | true =>
      refine wpAny_bind (wpAny_bind (wpAny_mono (q₄ s₄ _ H₄) (fun x s₅ h₅ => ?_) fun _ _ x => x))
      obtain ⟨σ₅, ⟨a, its, D', rfl, hz, u, q₅⟩, H₅⟩ := h₅
      refine wpAny_bind (wpAny_list_append_plain (H₅.list u.old) (fun h' hl hs => ?_) (by rw [List.size_toArray]; exact Nat.le_trans hz (by show _ ≤ 2 ^ 24; omega)))
      refine wpAny_pure (wpAny_pure ⟨rfl, q₅ _ _ ?_⟩)
      obtain ⟨n, hl⟩ := hl
      exact H₅.change u hs hl ⟨n, by simp⟩ s₅.toks
end
/-- what the inside of a comprehension may lean on -/
structure In (C C' : Cx) (σ : AS) : Prop where
  prog : C'.prog = C.prog
  w : C'.w = C.w
  A : C'.A = C.A
  keep : ∀ b o, C.h₀.get? b = some o → C'.h₀.get? b = some o
  led : ∀ p ∈ σ.D, ∃ o, C'.h₀.get? p.1 = some o ∧ p.2 o
theorem St.inner {C : Cx} {σ : AS} {s : Shared} (H : St C σ s) (L : Addr) : St ⟨C.prog, C.w, C.A, s.heap, s.drawn, s.os, L⟩ ⟨[], [], σ.g⟩ s :=
  ⟨fun _ _ e => e, fun h => absurd rfl h, fun _ hp => (nomatch hp), List.nodup_nil, List.nodup_nil, rfl, rfl, H.gens⟩
theorem In.of {C : Cx} {σ : AS} {s : Shared} (H : St C σ s) (L : Addr) : In C ⟨C.prog, C.w, C.A, s.heap, s.drawn, s.os, L⟩ σ := ⟨rfl, rfl, rfl, H.keep, fun p hp => (H.led p hp).1⟩
/-- the comprehension's own names are let go -/
theorem St.nsgone {C : Cx} {σ : AS} {s : Shared} {h' : Heap} (H : St C σ s) (hl : σ.l ≠ []) (hs : Heap.SameBut C.L s.heap h') (L : Addr) : St { C with L := L } ⟨[], σ.D, σ.g⟩ { s with heap := h' } := by
  obtain ⟨_, h1, h2⟩ := H.loc hl
  exact ⟨fun b o e => (hs.2 b (by rintro rfl; rw [h1] at e; cases e)).trans (H.keep b o e), fun h => absurd rfl h, fun p hp => ⟨(let ⟨o, e1, e2⟩ := (H.led p hp).1; ⟨o, (hs.2 _ (h2 p hp)).trans e1, e2⟩), (H.led p hp).2⟩, List.nodup_nil, H.ord, H.drawn, H.os, H.gens⟩
def nsP (m : Str → Option Value) : Obj → Prop := fun o => ∃ es ep, o.data = .dict es ep ∧ StrKeys es ∧ ∀ name, nsFind es name = m name
/-- the comprehension's own names as an object of the ledger -/
theorem St.nsled {C : Cx} {σ : AS} {s : Shared} (H : St C σ s) (hl : σ.l ≠ []) {D' : Led} (hsub : D'.Sublist σ.D) (L : Addr) : ∃ m, s.heap.Ns C.L m ∧ St { C with L := L } ⟨[], (C.L, nsP m) :: D', σ.g⟩ s := by
  obtain ⟨⟨m, hn, _⟩, h1, h2⟩ := H.loc hl
  refine ⟨m, hn, H.keep, fun h => absurd rfl h, fun p hp => ?_, List.nodup_nil, ?_, H.drawn, H.os, H.gens⟩
  · rcases List.mem_cons.mp hp with rfl | hp
    · obtain ⟨o, es, ep, ho, hd, hk, hf⟩ := hn
      exact ⟨⟨o, ho, es, ep, hd, hk, hf⟩, h1⟩
    · exact H.led p (hsub.subset hp)
  · rw [List.map_cons, List.nodup_cons]
    refine ⟨fun hm => ?_, H.ord.sublist (hsub.map _)⟩
    obtain ⟨p, hp, e⟩ := List.mem_map.mp hm
    exact h2 p (hsub.subset hp) e
section
variable {C : Cx} {l : Loc} {D : Led} {g : Array GenState} {elt target iter : Expr} {ifs : List Expr} {scope : Scope} {pos : Pos} {env : Env} {cl : List (Str × Addr)} {vl : Loc}
theorem comp_enter {σ₁ : AS} {s₁ : Shared} {E : Value → Shared → Prop} {xv : Value} {R : Value → Addr → Result → Shared → Prop} (H₁ : St C σ₁ s₁) (hcell : ∀ y ∈ scope.names, y.2 ≠ .cell) (hkind : scope.kind = .function)
    (hvl : vl ≠ []) (hnone : ∀ p ∈ vl, p.2 = none) (hnd : (vl.map (·.1)).Nodup) {P : Value → AS → Prop}
    (h : ∀ C' : Cx, In C C' σ₁ → W C' ⟨[], [], σ₁.g⟩ (pyIter xv) fun it σ₂ => ∀ L a, (∀ Q', Q' it ⟨vl, (a, listP []) :: σ₂.D, σ₂.g⟩ → W { C' with L := L } ⟨vl, (a, listP []) :: σ₂.D, σ₂.g⟩ (pyIter it) Q') ∧
      WComp { C' with L := L } ⟨vl, (a, listP []) :: σ₂.D, σ₂.g⟩ (compOf elt target iter ifs scope pos) it (.ref a) (compEnvC scope cl L env) fun σ₄ => σ₄.l ≠ [] ∧ ∃ D', D'.Sublist σ₄.D ∧ P (.ref a) ⟨σ₁.l, D' ++ σ₁.D, σ₄.g⟩)
    (hR : ∀ a L s' m σ', s'.heap.Ns L m → P (.ref a) σ' → St C ⟨σ'.l, (L, nsP m) :: σ'.D, σ'.g⟩ s' → R (.ref a) L (.ok .next) s') (hok : ∀ a L f s', R a L (.ok .next) s' → R a L (.ok f) s') :
    wpAny (model C.prog C.w) C.A (pyIter xv) (fun it s₂ => wpAny (model C.prog C.w) C.A (newList []) (fun acc s₃ => wpAny (model C.prog C.w) C.A (newFunctionEnv scope env.globals cl [] env.qual none .none (some env)) (fun cenv s₄ =>
      codeAny (model C.prog C.w) C.A (.compStart (compOf elt target iter ifs scope pos) 0 it acc { cenv with scope := relabel scope env }) (R acc cenv.locals) s₄) E s₃) E s₂) E s₁ := by
  refine wpAny_mono (h _ (In.of H₁ 0) s₁ E (H₁.inner 0)) (fun it s₂ h₂ => ?_) fun _ _ x => x
  obtain ⟨σ₂, q₂, H₂⟩ := h₂
  refine wpAny_newObj_type (wpAny_newFunctionEnv hcell (by intro y hy; simp at hy) (fun h₁ hns₁ hsb₁ => ?_) hkind)
  dsimp only at hns₁ hsb₁ ⊢
  have H₃ := H₂.push (P := listP []) { cls := .type "list", dict := none, data := .seq ([] : List Value).toArray } ⟨0, rfl⟩
  generalize hs₃ : ({ s₂ with heap := s₂.heap.push { cls := .type "list", dict := none, data := .seq ([] : List Value).toArray } } : Shared) = s₃ at H₃
  have e3 : s₂.heap.push { cls := .type "list", dict := none, data := .seq ([] : List Value).toArray } = s₃.heap := by rw [← hs₃]
  rw [e3] at hns₁ hsb₁ ⊢
  have H₄ : St { (⟨C.prog, C.w, C.A, s₁.heap, s₁.drawn, s₁.os, 0⟩ : Cx) with L := s₃.heap.objs.size } ⟨vl, (s₂.heap.objs.size, listP []) :: σ₂.D, σ₂.g⟩ { s₂ with heap := h₁, toks := s₂.toks + ([] : List (Str × Value)).length } := by
    have kp : ∀ b o, s₃.heap.get? b = some o → h₁.get? b = some o := fun b o e => hsb₁.extBut b o (Nat.ne_of_lt (Heap.lt_size e)) (Heap.get?_push_of_some _ e)
    refine ⟨fun b o e => kp b o (H₃.keep b o e), fun _ => ⟨⟨_, hns₁, fun p hp => (hnone p hp).symm⟩, ?_, fun p hp => ?_⟩, fun p hp => ⟨?_, (H₃.led p hp).2⟩, hnd, H₃.ord, ?_, ?_, ?_⟩
    · show s₁.heap.get? s₃.heap.objs.size = none
      cases q : s₁.heap.get? s₃.heap.objs.size with
      | none => rfl
      | some o => exact absurd (Heap.lt_size (H₃.keep _ _ q)) (Nat.lt_irrefl _)
    · obtain ⟨o, ho, _⟩ := (H₃.led p hp).1
      exact Nat.ne_of_lt (Heap.lt_size ho)
    · obtain ⟨o, ho, hp'⟩ := (H₃.led p hp).1
      exact ⟨o, kp _ _ ho, hp'⟩
    · exact H₂.drawn
    · exact H₂.os
    · exact H₂.gens
  obtain ⟨hself, hcomp⟩ := q₂ s₃.heap.objs.size s₂.heap.objs.size
  have loop : codeAny (model C.prog C.w) C.A (.compLoop (compOf elt target iter ifs scope pos) 0 it (.ref s₂.heap.objs.size) (compEnvC scope cl s₃.heap.objs.size env)) (R (.ref s₂.heap.objs.size) s₃.heap.objs.size) { s₂ with heap := h₁, toks := s₂.toks + ([] : List (Str × Value)).length } := by
    refine codeAny_mono (hcomp _ (fun x s' => R (.ref s₂.heap.objs.size) s₃.heap.objs.size (.error x) s') H₄) fun r s' hr => ?_
    cases r with
    | error x => exact hr
    | ok f =>
      obtain ⟨σ₄, ⟨hne, D', hsub, hp⟩, H'⟩ := hr
      obtain ⟨m, hm, H''⟩ := H'.nsled hne hsub 0
      exact hok _ _ _ _ (hR _ _ _ m _ hm hp (St.ret H₁ rfl rfl rfl H''))
  refine codeAny_compStart_list loop ?_
  refine wpAny_mono (hself (fun it' σ' => it' = it ∧ σ' = ⟨vl, (s₂.heap.objs.size, listP []) :: σ₂.D, σ₂.g⟩) ⟨rfl, rfl⟩ _ _ H₄) (fun it' s' h' => ?_) fun _ _ x => x
  obtain ⟨σ', ⟨rfl, rfl⟩, H'⟩ := h'
  refine codeAny_mono (hcomp _ (fun x s' => R (.ref s₂.heap.objs.size) s₃.heap.objs.size (.error x) s') H') fun r s' hr => ?_
  cases r with
  | error x => exact hr
  | ok f =>
    obtain ⟨σ₄, ⟨hne, D', hsub, hp⟩, H'⟩ := hr
    obtain ⟨m, hm, H''⟩ := H'.nsled hne hsub 0
    exact hok _ _ _ _ (hR _ _ _ m _ hm hp (St.ret H₁ rfl rfl rfl H''))
/-- a list comprehension as an expression -/
theorem ListComp_ {Q : Value → AS → Prop} (vl : Loc) (cl : List (Str × Addr)) (hclos : closureFor scope env = pure cl) (hcell : ∀ y ∈ scope.names, y.2 ≠ .cell) (hkind : scope.kind = .function)
    (hnames : ∀ y ∈ scope.names, y.2 = .local → scope.names.lookup y.1 = some .local) (hvl : vl ≠ []) (hnone : ∀ p ∈ vl, p.2 = none) (hnd : (vl.map (·.1)).Nodup)
    (h : W C ⟨l, D, g⟩ (eval iter env) fun xv σ₁ => ∀ C' : Cx, In C C' σ₁ → W C' ⟨[], [], σ₁.g⟩ (pyIter xv) fun it σ₂ => ∀ L a, (∀ Q', Q' it ⟨vl, (a, listP []) :: σ₂.D, σ₂.g⟩ → W { C' with L := L } ⟨vl, (a, listP []) :: σ₂.D, σ₂.g⟩ (pyIter it) Q') ∧
      WComp { C' with L := L } ⟨vl, (a, listP []) :: σ₂.D, σ₂.g⟩ (compOf elt target iter ifs scope pos) it (.ref a) (compEnvC scope cl L env) fun σ₄ => σ₄.l ≠ [] ∧ ∃ D', D'.Sublist σ₄.D ∧ Q (.ref a) ⟨σ₁.l, D' ++ σ₁.D, σ₄.g⟩)
    (hs : ∀ x, foldedSetIterable iter env x = pure x := by intro _; rfl) : W C ⟨l, D, g⟩ (eval (compOf elt target iter ifs scope pos) env) Q := fun s E H => by
  rw [eval_ListComp]
  refine wpAny_comprehension_free (use := none) rfl hs hclos hkind hnames (wpAny_mono (h s E H) (fun xv s₁ hx => ?_) fun _ _ x => x)
  obtain ⟨σ₁, hq, H₁⟩ := hx
  refine comp_enter (P := Q) (R := fun acc L => compPost (model C.prog C.w) C.A E none (fun v s' => ∃ σ', Q v σ' ∧ St C σ' s') acc L) H₁ hcell hkind hvl hnone hnd hq ?_ (fun _ _ _ _ x => x)
  intro a L s' m σ' hm hp H'
  exact ⟨m, hm, fun h' hs' => ⟨σ', hp, (H'.gone DelD.here hs'.extBut s'.toks)⟩⟩
/-- a list comprehension that a name takes -/
theorem Assign_ListComp {x : Str} {px spos : Pos} {Q : Flow → AS → Prop} (vl : Loc) (cl : List (Str × Addr)) (hsw : swapsWith (compOf elt target iter ifs scope pos) (some (.Name x px)) spos.line env = pure true)
    (hclos : closureFor scope env = pure cl) (hcell : ∀ y ∈ scope.names, y.2 ≠ .cell) (hkind : scope.kind = .function)
    (hnames : ∀ y ∈ scope.names, y.2 = .local → scope.names.lookup y.1 = some .local) (hvl : vl ≠ []) (hnone : ∀ p ∈ vl, p.2 = none) (hnd : (vl.map (·.1)).Nodup)
    (h : W C ⟨l, D, g⟩ (eval iter env) fun xv σ₁ => ∀ C' : Cx, In C C' σ₁ → W C' ⟨[], [], σ₁.g⟩ (pyIter xv) fun it σ₂ => ∀ L a, (∀ Q', Q' it ⟨vl, (a, listP []) :: σ₂.D, σ₂.g⟩ → W { C' with L := L } ⟨vl, (a, listP []) :: σ₂.D, σ₂.g⟩ (pyIter it) Q') ∧
      WComp { C' with L := L } ⟨vl, (a, listP []) :: σ₂.D, σ₂.g⟩ (compOf elt target iter ifs scope pos) it (.ref a) (compEnvC scope cl L env) fun σ₄ => σ₄.l ≠ [] ∧ ∃ D', D'.Sublist σ₄.D ∧ ∃ l', Upd σ₁.l x (.ref a) l' ∧ Q .next ⟨l', D' ++ σ₁.D, σ₄.g⟩)
    (hL : env.locals = C.L := by rfl) (hk : env.scope.kind = .function := by kernel_rfl) (hl : env.kindOf x = some .local := by kernel_rfl)
    (hs : ∀ x, foldedSetIterable iter env x = pure x := by intro _; rfl) : W C ⟨l, D, g⟩ (exec (.Assign [.Name x px] (compOf elt target iter ifs scope pos) spos) env) Q := fun s E H => by
  rw [exec_Assign_Name_used _ _ _ _ hsw]
  refine wpAny_bind (wpAny_standAt (wpAny_bind ?_))
  show wpAny _ C.A (do let _ ← comprehension (compOf elt target iter ifs scope pos) scope env _ (newList []) false (eval iter env) (some (assign (.Name x px) env))) _ _ s
  refine wpAny_bind (wpAny_mono (wpAny_comprehension_free (use := some (assign (.Name x px) env)) (Q := fun _ s' => ∃ σ', Q .next σ' ∧ St C σ' s') rfl hs hclos hkind hnames (wpAny_mono (h s E H) (fun xv s₁ hx => ?_) fun _ _ x => x)) (fun _ s' hq => wpAny_pure (wpAny_pure hq)) fun _ _ x => x)
  obtain ⟨σ₁, hq, H₁⟩ := hx
  refine comp_enter (P := fun v σ' => ∃ l', Upd σ₁.l x v l' ∧ Q .next ⟨l', σ'.D, σ'.g⟩ ∧ σ'.l = σ₁.l) (R := fun acc L => compPost (model C.prog C.w) C.A E (some (assign (.Name x px) env)) (fun _ s' => ∃ σ', Q .next σ' ∧ St C σ' s') acc L) H₁ hcell hkind hvl hnone hnd
    (fun C' hi => W.mono (hq C' hi) fun it σ₂ q L a => ⟨(q L a).1, WComp.mono (q L a).2 fun σ₄ ⟨h1, D', h2, l', h3, h4⟩ => ⟨h1, D', h2, l', h3, h4, rfl⟩⟩) ?_ (fun _ _ _ _ x => x)
  rintro a L s' m ⟨l1, D1, g1⟩ hm ⟨l', u, hp, e⟩ H'
  dsimp only at e; subst e
  refine wpAny_mono (W.run (Assign_target (pos := px) (Store_local u (Q := fun _ σ'' => σ'' = ⟨l', (L, nsP m) :: D1, g1⟩) rfl hL hk hl)) H') (fun _ s'' h'' => ?_) fun _ _ x => x
  obtain ⟨_, rfl, H''⟩ := h''
  obtain ⟨o, ho, es, ep, hd, hsk, hf⟩ := H''.obj (List.Mem.head _)
  exact ⟨m, ⟨o, es, ep, ho, hd, hsk, hf⟩, fun h' hs' => ⟨_, hp, H''.gone DelD.here hs'.extBut s''.toks⟩⟩
end
end
section
open PySem.Calls
/-- a def some of whose names are captured: its cells stand in the ledger -/
theorem Call_cells {C : Cx} {σ : AS} {mg mb : Str → Option Value} {name : Str} {params : Arguments} {body : List Stmt} {scope : Scope} {a : Addr} {args : List Value} {binds : List (Str × Value)} {l' : Loc} {cells : Addr → Led} {k : Nat} {Q : Value → AS → Prop}
    (G : Gl C.h₀ mg mb) (F : FnAt C.h₀ mg name params body scope a) (R : Room C.A (k + 1))
    (hbind : ∀ pm cd doc, bindArgs (docDef name params body scope pm cd doc) ⟨args, []⟩ = pure binds)
    (hkind : ∀ (L : Addr), ∀ x ∈ binds, scope.names.lookup x.1 = some .local ∨ (scope.names.lookup x.1 = some .cell ∧ ((cellsFrom (L + 1) scope.names []).lookup x.1).isSome = true))
    (hl : ∀ L cd, ∀ p ∈ l', bindL (envOfC name scope L a cd).kindOf binds (fun _ => none) p.1 = p.2) (hnd : (l'.map (·.1)).Nodup)
    (hc : ∀ L cd, (cellsFrom (L + 1) scope.names []).map (fun p => (p.2, cellP (bindC (envOfC name scope L a cd).kindOf binds (fun _ => none) p.1))) = cells L)
    (hcn : ∀ L : Addr, ((cellsFrom (L + 1) scope.names []).map (·.2)).Nodup ∧ ∀ c ∈ (cellsFrom (L + 1) scope.names []).map (·.2), L < c) (hcl : ∀ L : Addr, ∀ p ∈ cellsFrom (L + 1) scope.names [], (cellsFrom (L + 1) scope.names []).lookup p.1 = some p.2)
    (h : ∀ (C' : Cx) (cd : Value), Sub C C' σ (envOfC name scope C'.L a cd) → Room C'.A k → Gl C'.h₀ mg mb →
      W C' ⟨l', cells C'.L, σ.g⟩ (execs body (envOfC name scope C'.L a cd)) fun f σ' => ∃ D', D'.Sublist σ'.D ∧ Q (retVal f) ⟨σ.l, D' ++ σ.D, σ'.g⟩)
    (hco : scope.isCoroutine = false := by kernel_rfl) (hgen : scope.isGenerator = false := by kernel_rfl) (hk : scope.kind = .function := by kernel_rfl) :
    W C σ (call (.ref a) args) Q := fun s E H => by
  obtain ⟨o, pm, cd, doc, h1, h2, h3⟩ := F.obj
  refine wpAny_call (call_cells_ret (params := params) R.lt (H.keep _ _ h1) h2 (G.keeps H.keep).nolimit (h3.keeps H.keep) (hbind pm cd doc) (hkind _) (fun h₁ tk F₁ X₁ => ?_) hco hgen hk)
  let C' : Cx := ⟨C.prog, C.w, C.A.deeper (envOfC name scope s.heap.objs.size a cd), s.heap, s.drawn, s.os, s.heap.objs.size⟩
  have sub : Sub C C' σ (envOfC name scope C'.L a cd) := ⟨rfl, rfl, rfl, H.keep, fun p hp => (H.led p hp).1⟩
  have big : ∀ c : Addr, s.heap.objs.size < c → s.heap.get? c = none := fun c hc => by
    cases q : s.heap.get? c with
    | none => rfl
    | some o => exact absurd (Heap.lt_size q) (Nat.not_lt.mpr (Nat.le_of_lt hc))
  have st : St C' ⟨l', cells C'.L, σ.g⟩ { s with heap := h₁, toks := tk } := by
    have hcc := hc s.heap.objs.size cd
    refine ⟨F₁.keep, fun _ => ⟨⟨_, F₁.ns, hl _ cd⟩, no_size s.heap, fun p hp => ?_⟩, fun p hp => ?_, hnd, ?_, rfl, rfl, H.gens⟩
    · have hp' : p ∈ cells s.heap.objs.size := hp
      rw [← hcc] at hp'
      obtain ⟨q, hq, rfl⟩ := List.mem_map.mp hp'
      exact Nat.ne_of_gt ((hcn s.heap.objs.size).2 _ (List.mem_map.mpr ⟨q, hq, rfl⟩))
    · have hp' : p ∈ cells s.heap.objs.size := hp
      rw [← hcc] at hp'
      obtain ⟨q, hq, rfl⟩ := List.mem_map.mp hp'
      obtain ⟨o', ho', hd'⟩ := X₁.cell q.1 q.2 (hcl _ q hq)
      exact ⟨⟨o', ho', hd'⟩, big _ ((hcn s.heap.objs.size).2 _ (List.mem_map.mpr ⟨q, hq, rfl⟩))⟩
    · show ((cells s.heap.objs.size).map (·.1)).Nodup
      rw [← hcc, List.map_map]
      exact (hcn _).1
  exact wpAny_mono (h C' cd sub (R.deeper _) (G.keeps H.keep) _ _ st) (fun f s' ⟨σ', ⟨D', hs, q⟩, H'⟩ => ⟨_, q, St.ret (σ' := ⟨σ'.l, D', σ'.g⟩) H rfl rfl rfl (H'.drop rfl hs rfl)⟩) fun _ _ x => x
def rangeP (a b c : Int) : Obj → Prop := fun o => ∃ t u v, o = { cls := .type "range", dict := none, data := .fields #[.int a t, .int b u, .int c v], slots := #[] }
def rangeIterP (x left step : Int) : Obj → Prop := fun o => o = { cls := .type "range_iterator", dict := none, data := .fields #[rawInt x, rawInt left, rawInt step], slots := #[] }
section
variable {C : Cx} {l : Loc} {D D' : Led} {g : Array GenState} {env : Env} {a t I r c : Addr} {its : List Value} {i : Nat}
-- captured names
theorem Name_cell {x : Str} {pos : Pos} {v : Value} {Q : Value → AS → Prop} (hc : env.cells.lookup x = some c) (hin : (c, cellP (some v)) ∈ D) (h : Q v ⟨l, D, g⟩)
    (hk : env.scope.kind = .function := by kernel_rfl) (hl : env.kindOf x = some .cell := by kernel_rfl) (hd : (x == ("__debug__" : Str)) = false := by kernel_rfl) :
    W C ⟨l, D, g⟩ (eval (.Name x pos) env) Q := fun s E H => wpAny_Name (wpAny_loadName_cell hk hl hc (H.cell hin) ⟨_, h, H⟩) hd
theorem Name_cell0 {x : Str} {pos : Pos} {v : Value} {Q : Value → AS → Prop} (hc : env.cells.lookup x = some c) (hv : C.h₀.IsCell c (some v)) (h : Q v ⟨l, D, g⟩)
    (hk : env.scope.kind = .function := by kernel_rfl) (hl : env.kindOf x = some .cell := by kernel_rfl) (hd : (x == ("__debug__" : Str)) = false := by kernel_rfl) :
    W C ⟨l, D, g⟩ (eval (.Name x pos) env) Q := fun s E H => wpAny_Name (wpAny_loadName_cell hk hl hc (hv.keeps H.keep) ⟨_, h, H⟩) hd
theorem Store_cell {x : Str} {v : Value} {o : Option Value} {Q : Unit → AS → Prop} (hc : env.cells.lookup x = some c) (u : UpdD D c (cellP o) (cellP (some v)) D') (h : Q () ⟨l, D', g⟩)
    (hk : env.scope.kind = .function := by kernel_rfl) (hl : env.kindOf x = some .cell := by kernel_rfl) : W C ⟨l, D, g⟩ (storeName env x v) Q := fun s E H =>
  wpAny_storeName_cell hk hl hc (H.cell u.old) fun h' hv hs => by
    obtain ⟨o', ho', hd'⟩ := hv
    exact ⟨_, h, H.change u hs ho' hd' s.toks⟩
-- range
theorem Range1 {n : Int} {t : Tok} {Q : Value → AS → Prop} (h : ∀ a, Q (.ref a) ⟨l, (a, rangeP 0 n 1) :: D, g⟩) : W C ⟨l, D, g⟩ (call (.type "range") [.int n t]) Q := fun s E H =>
  call_range_1 ⟨_, h _, (H.push (P := rangeP 0 n 1) { cls := .type "range", data := .fields #[.int 0 s.toks, .int n t, .int 1 (s.toks + 1)] } ⟨_, _, _, rfl⟩).toks _⟩
theorem Range3 {a b c : Int} {t u v : Tok} {Q : Value → AS → Prop} (hc : c ≠ 0) (hp : Builtin.divisionGoesByPylong (b - a) c = false) (h : ∀ r, Q (.ref r) ⟨l, (r, rangeP a b c) :: D, g⟩) : W C ⟨l, D, g⟩ (call (.type "range") [.int a t, .int b u, .int c v]) Q := fun s E H =>
  call_range_3 hc ⟨_, h _, (H.push (P := rangeP a b c) { cls := .type "range", data := .fields #[.int a t, .int b u, .int c v] } ⟨_, _, _, rfl⟩).toks _⟩ (.inl hp)
theorem Iter_range {a b c : Int} {Q : Value → AS → Prop} (hin : ∀ s, St C ⟨l, D, g⟩ s → ∃ o, s.heap.get? r = some o ∧ rangeP a b c o) (hs : Builtin.Range.small a b c = true) (h : ∀ I, Q (.ref I) ⟨l, (I, rangeIterP a (Builtin.Range.rangeSize a b c) c) :: D, g⟩) :
    W C ⟨l, D, g⟩ (pyIter (.ref r)) Q := fun s E H => by
  obtain ⟨o, ho, t, u, v, rfl⟩ := hin s H
  exact wpAny_pyIter_range ho hs ⟨_, h _, H.push _ rfl⟩
theorem Next_range {x left step : Int} {Q : Option Value → AS → Prop} (hp : 0 < left) (u : UpdD D I (rangeIterP x left step) (rangeIterP (x + step) (left - 1) step) D') (h : ∀ t, Q (some (.int x t)) ⟨l, D', g⟩) : W C ⟨l, D, g⟩ (pyNext (.ref I)) Q := fun s E H => by
  obtain ⟨o, ho, rfl⟩ := H.obj u.old
  exact wpAny_pyNext_range_item ho hp fun h' hi hs => ⟨_, h _, H.change u hs hi rfl _⟩
theorem Next_range_end {x left step : Int} {Q : Option Value → AS → Prop} (hh : C.A.handled = none) (hp : left ≤ 0) (hin : (I, rangeIterP x left step) ∈ D) (u : DelD D I D') (h : Q none ⟨l, D', g⟩) : W C ⟨l, D, g⟩ (pyNext (.ref I)) Q := fun s E H => by
  obtain ⟨o, ho, rfl⟩ := H.obj hin
  exact wpAny_pyNext_range_end hh ho hp fun h' hs => ⟨_, h, H.gone u hs s.toks⟩
theorem Self_range {x left step : Int} {Q : Value → AS → Prop} (hin : (I, rangeIterP x left step) ∈ D) (h : Q (.ref I) ⟨l, D, g⟩) : W C ⟨l, D, g⟩ (pyIter (.ref I)) Q := fun s E H => by
  obtain ⟨o, ho, rfl⟩ := H.obj hin
  exact wpAny_pyIter_rangeiter ho ⟨_, h, H⟩
-- lists
theorem Iter_list {Q : Value → AS → Prop} (ht : ∀ s, St C ⟨l, D, g⟩ s → s.heap.IsList t its.toArray) (h : ∀ I, Q (.ref I) ⟨l, (I, listIterP t 0) :: D, g⟩) : W C ⟨l, D, g⟩ (pyIter (.ref t)) Q := fun s E H =>
  wpAny_pyIter_list (ht s H) ⟨_, h _, H.push _ ⟨rfl, rfl⟩⟩
theorem Next_list {x : Value} {Q : Option Value → AS → Prop} (ht : ∀ s, St C ⟨l, D, g⟩ s → s.heap.IsList t its.toArray) (hx : its[i]? = some x) (u : UpdD D I (listIterP t i) (listIterP t (i + 1)) D') (h : Q (some x) ⟨l, D', g⟩) :
    W C ⟨l, D, g⟩ (pyNext (.ref I)) Q := fun s E H =>
  wpAny_pyNext_list_item (H.listIter u.old) (ht s H) (by simpa using hx) fun h' hit hs => ⟨_, h, by
    obtain ⟨o, ho, h1, h2⟩ := hit
    exact H.change u hs ho ⟨h1, h2⟩ s.toks⟩
theorem Next_list_end {Q : Option Value → AS → Prop} (hh : C.A.handled = none) (ht : ∀ s, St C ⟨l, D, g⟩ s → s.heap.IsList t its.toArray) (hx : its[i]? = none) (hin : (I, listIterP t i) ∈ D) (u : DelD D I D') (h : Q none ⟨l, D', g⟩) :
    W C ⟨l, D, g⟩ (pyNext (.ref I)) Q := fun s E H =>
  wpAny_pyNext_list_end hh (H.listIter hin) (ht s H) (by simpa using hx) fun h' hs => ⟨_, h, H.gone u hs s.toks⟩
theorem Self_list {Q : Value → AS → Prop} (hin : (I, listIterP t i) ∈ D) (h : Q (.ref I) ⟨l, D, g⟩) : W C ⟨l, D, g⟩ (pyIter (.ref I)) Q := fun s E H => wpAny_pyIter_listiter (H.listIter hin) ⟨_, h, H⟩
theorem let_list {elts : List Expr} {k : Nat} {pos : Pos} {v : Value} {Q : Unit → AS → Prop} (hin : (I, listIterP t i) ∈ D) (h : Q () ⟨l, D, g⟩) : W C ⟨l, D, g⟩ (letOwnedTupleGo (.Tuple elts k pos) (.ref I) v) Q := fun s E H => by
  obtain ⟨o, ho, hc, hd⟩ := H.listIter hin
  cases v with
  | ref b =>
    unfold letOwnedTupleGo
    refine wpAny_bind (wpAny_load ho ?_)
    rw [hc, hd]
    exact wpAny_pure ⟨_, h, H⟩
  | _ => exact wpAny_pure ⟨_, h, H⟩
theorem Len_list {Q : Value → AS → Prop} (ht : ∀ s, St C ⟨l, D, g⟩ s → s.heap.IsList t its.toArray) (hz : its.length ≤ 1000000) (h : ∀ u, Q (.int its.length u) ⟨l, D, g⟩) : W C ⟨l, D, g⟩ (call (.builtin "len") [.ref t]) Q := fun s E H =>
  Calls.call_len_list (ht s H) (by rw [List.size_toArray]; omega) ⟨_, by rw [List.size_toArray]; exact h _, H.toks _⟩
theorem Len_str {x : Str} {t : Tok} {Q : Value → AS → Prop} (hz : x.length ≤ 1000000) (h : ∀ u, Q (.int x.length u) ⟨l, D, g⟩) : W C ⟨l, D, g⟩ (call (.builtin "len") [.str x t]) Q := fun s E H =>
  PyProof.Rows.len_str (by omega) ⟨_, h _, H.toks _⟩
theorem Sub_ {value slice : Expr} {pos : Pos} {Q : Value → AS → Prop} (h : W C ⟨l, D, g⟩ (eval value env) fun o σ₁ => W C σ₁ (eval slice env) fun i σ₂ => W C σ₂ (subscriptTail value slice o i) Q) : W C ⟨l, D, g⟩ (eval (.Subscript value slice pos) env) Q := fun s E H =>
  Subscript_ (wpAny_mono (h s E H) (fun o s₁ ⟨σ₁, q₁, H₁⟩ => wpAny_mono (q₁ s₁ E H₁) (fun i s₂ ⟨σ₂, q₂, H₂⟩ => q₂ s₂ E H₂) fun _ _ x => x) fun _ _ x => x)
theorem Item_list {value slice : Expr} {k : Int} {u : Tok} {x : Value} {Q : Value → AS → Prop} (ht : ∀ s, St C ⟨l, D, g⟩ s → s.heap.IsList t its.toArray) (h0 : 0 ≤ k) (hk : k < 1000000) (hx : its[k.toNat]? = some x) (h : Q x ⟨l, D, g⟩)
    (hs : subscripted slice false (.ref t) (.int k u) = operate [.ref t, .int k u] (getItem (.ref t) (.int k u)) := by with_unfolding_all rfl) : W C ⟨l, D, g⟩ (subscriptTail value slice (.ref t) (.int k u)) Q := fun s E H =>
  have hl := ht s H
  tail_any hl.typeIs slot_list_getitem.lookup (wpAny_getItem_list hl h0 (by omega) (by simpa using hx) ⟨_, h, H⟩) hs
-- ints
theorem Add_int {a b : Int} {t u : Tok} {Q : Value → AS → Prop} (h : ∀ t, Q (.int (a + b) t) ⟨l, D, g⟩) : W C ⟨l, D, g⟩ (binaryOp .Add (.int a t) (.int b u)) Q := fun s _ H => PyProof.Rows.add_int ⟨_, h _, H.toks _⟩
theorem Sub_int {a b : Int} {t u : Tok} {Q : Value → AS → Prop} (h : ∀ t, Q (.int (a - b) t) ⟨l, D, g⟩) : W C ⟨l, D, g⟩ (binaryOp .Sub (.int a t) (.int b u)) Q := fun s _ H => PyProof.Rows.sub_int ⟨_, h _, H.toks _⟩
theorem Mul_int {a b : Int} {t u : Tok} {Q : Value → AS → Prop} (hm : IntMulOk a b) (h : ∀ t, Q (.int (a * b) t) ⟨l, D, g⟩) : W C ⟨l, D, g⟩ (binaryOp .Mult (.int a t) (.int b u)) Q := fun s _ H => PyProof.Rows.mul_int ⟨_, h _, H.toks _⟩ hm
theorem Mod_int {a b : Int} {t u : Tok} {Q : Value → AS → Prop} (hb : b ≠ 0) (h : ∀ t, Q (.int (a.fmod b) t) ⟨l, D, g⟩) : W C ⟨l, D, g⟩ (binaryOp .Mod (.int a t) (.int b u)) Q := fun s _ H => PyProof.Rows.mod_int' hb ⟨_, h _, H.toks _⟩
theorem Div_int {a b : Int} {t u : Tok} {Q : Value → AS → Prop} (hb : b ≠ 0) (hs : b.natAbs < 1073741824) (h : ∀ t, Q (.int (a.fdiv b) t) ⟨l, D, g⟩) : W C ⟨l, D, g⟩ (binaryOp .FloorDiv (.int a t) (.int b u)) Q := fun s _ H =>
  PyProof.Rows.floordiv_int hb ⟨_, h _, H.toks _⟩ (.inl (PyProof.noPylong_small hs))
theorem Pow_int {a b : Int} {t u : Tok} {Q : Value → AS → Prop} (h0 : 0 ≤ b) (hb : b ≤ 1000) (ha : a.natAbs < 1000) (h : ∀ t, Q (.int (a ^ b.toNat) t) ⟨l, D, g⟩) : W C ⟨l, D, g⟩ (binaryOp .Pow (.int a t) (.int b u)) Q := fun s _ H =>
  pow_int_small h0 (by omega) (by omega) ⟨_, h _, H.toks _⟩
theorem Xor_int {a b : Int} {t u : Tok} {Q : Value → AS → Prop} (h : ∀ t, Q (.int (Builtin.bitXor a b) t) ⟨l, D, g⟩) : W C ⟨l, D, g⟩ (binaryOp .BitXor (.int a t) (.int b u)) Q := fun s _ H => PyProof.Rows.xor_int ⟨_, h _, H.toks _⟩
theorem Abs_int {a : Int} {t : Tok} {Q : Value → AS → Prop} (h : ∀ t, Q (.int (if a < 0 then -a else a) t) ⟨l, D, g⟩) : W C ⟨l, D, g⟩ (call (.builtin "abs") [.int a t]) Q := fun s _ H => call_abs_int fun u tk => ⟨_, h u, H.toks tk⟩
theorem IfExp_ {test body orelse : Expr} {pos : Pos} {Q : Value → AS → Prop} (h : W C ⟨l, D, g⟩ (isTrue test env (eval test env)) fun b σ' => if b = true then W C σ' (eval body env) Q else W C σ' (eval orelse env) Q) :
    W C ⟨l, D, g⟩ (eval (.IfExp test body orelse pos) env) Q := fun s E H => wpAny_IfExp (wpAny_mono (h s _ H) (fun b s' ⟨σ', q, H'⟩ => by
    cases b with
    | true => exact q s' _ H'
    | false => exact q s' _ H') fun _ _ x => x)
end
end
section
open PySem.Calls
theorem ite_t {P R : Prop} (h : P) : if true = true then P else R := by rw [if_pos rfl]; exact h
theorem ite_f {P R : Prop} (h : R) : if false = true then P else R := by rw [if_neg Bool.false_ne_true]; exact h
theorem ite_b {b : Bool} {P R : Prop} (h1 : b = true → P) (h0 : b = false → R) : if b = true then P else R := by
  cases b with
  | true => exact ite_t (h1 rfl)
  | false => exact ite_f (h0 rfl)
/-- what is known of an object: of old or in the ledger -/
def Kn (C : Cx) (D : Led) (a : Addr) (P : Obj → Prop) : Prop := (∃ o, C.h₀.get? a = some o ∧ P o) ∨ (a, P) ∈ D
theorem Kn.obj {C : Cx} {l : Loc} {D : Led} {g : Array GenState} {s : Shared} {a : Addr} {P : Obj → Prop} (k : Kn C D a P) (H : St C ⟨l, D, g⟩ s) : ∃ o, s.heap.get? a = some o ∧ P o := by
  rcases k with ⟨o, h, hp⟩ | h
  · exact ⟨o, H.keep _ _ h, hp⟩
  · exact H.obj h
theorem Kn.sub {C C' : Cx} {σ : AS} {env : Env} {a : Addr} {P : Obj → Prop} {D' : Led} (k : Kn C σ.D a P) (Su : Sub C C' σ env) : Kn C' D' a P := by
  rcases k with ⟨o, h, hp⟩ | h
  · exact .inl ⟨o, Su.keep _ _ h, hp⟩
  · exact .inl (Su.led _ h)
theorem Kn.inn {C C' : Cx} {σ : AS} {a : Addr} {P : Obj → Prop} {D' : Led} (k : Kn C σ.D a P) (Su : In C C' σ) : Kn C' D' a P := by
  rcases k with ⟨o, h, hp⟩ | h
  · exact .inl ⟨o, Su.keep _ _ h, hp⟩
  · exact .inl (Su.led _ h)
theorem Kn.old {C : Cx} {a : Addr} {P : Obj → Prop} {D' : Led} (k : Kn C [] a P) : Kn C D' a P := by
  rcases k with h | h
  · exact .inl h
  · cases h
theorem Kn.list {C : Cx} {l : Loc} {D : Led} {g : Array GenState} {s : Shared} {a : Addr} {its : List Value} (k : Kn C D a (listP its)) (H : St C ⟨l, D, g⟩ s) : s.heap.IsList a its.toArray := by
  obtain ⟨o, h, n, rfl⟩ := k.obj H
  exact Heap.PlainList.isList ⟨n, h⟩
theorem ints_get {vs : List Value} {ns : List Int} (h : IntsAre vs ns) {k : Nat} {n : Int} (hk : ns[k]? = some n) : ∃ t, vs[k]? = some (.int n t) := by
  have hl := h.length
  have h1 := (List.getElem?_eq_some_iff.mp hk).1
  have h2 : k < vs.length := by omega
  obtain ⟨n', t, e, hn⟩ := IntsAre.at h k vs[k] (by simp [h2])
  rw [hk] at hn; cases hn
  exact ⟨t, by rw [← e]; simp [h2]⟩
theorem ints_snoc {vs : List Value} {ns : List Int} (h : IntsAre vs ns) (n : Int) (t : Tok) : IntsAre (vs ++ [.int n t]) (ns ++ [n]) := by
  induction ns generalizing vs with
  | nil => rw [h.nil_inv]; exact .cons _ _ .nil
  | cons m ms ih => obtain ⟨t', vs', rfl, h'⟩ := h.cons_inv; exact .cons _ _ (ih h')
section
variable {C : Cx} {l : Loc} {D D' : Led} {g : Array GenState} {env : Env}
theorem And_cons {x : Expr} {rest : List Expr} {pos : Pos} {whole : Sem Value} {Q : Bool → AS → Prop}
    (h : W C ⟨l, D, g⟩ (isTrue x env (eval x env)) fun c σ' => if c = true then W C σ' (isTrue (.BoolOp .And rest pos) env whole) Q else Q false σ') : W C ⟨l, D, g⟩ (isTrue (.BoolOp .And (x :: rest) pos) env whole) Q := fun s E H =>
  isTrue_and (wpAny_mono (h s _ H) (fun c s' ⟨σ', q, H'⟩ => by
    cases c with
    | true => exact q s' E H'
    | false => exact ⟨σ', q, H'⟩) fun _ _ x => x)
theorem And_nil {pos : Pos} {whole : Sem Value} {Q : Bool → AS → Prop} (h : Q true ⟨l, D, g⟩) : W C ⟨l, D, g⟩ (isTrue (.BoolOp .And [] pos) env whole) Q := fun s E H => isTrue_and_nil ⟨_, h, H⟩
theorem Ne_ints {a b : Addr} {vs us : List Value} {ns ms : List Int} {Q : Value → AS → Prop} (ka : Kn C D a (listP vs)) (kb : Kn C D b (listP us)) (ia : IntsAre vs ns) (ib : IntsAre us ms) (hu : C.A.units ≤ 9000) (h : Q (.bool (!decide (ns = ms))) ⟨l, D, g⟩) :
    W C ⟨l, D, g⟩ (compareOp .NotEq (.ref a) (.ref b)) Q := fun s E H => ne_intsK (ka.list H) ia (kb.list H) ib (by show _ < 9900; omega) ⟨_, h, H⟩
theorem In_ints {a : Addr} {vs : List Value} {ns : List Int} {k : Int} {t : Tok} {Q : Value → AS → Prop} (ka : Kn C D a (listP vs)) (ia : IntsAre vs ns) (h : Q (.bool (ns.any (· == k))) ⟨l, D, g⟩) :
    W C ⟨l, D, g⟩ (compareOp .In (.int k t) (.ref a)) Q := fun s E H => in_list_ints (ka.list H) ia ⟨_, h, H⟩
theorem Eq_bool {a b : Bool} {Q : Value → AS → Prop} (h : Q (.bool (a == b)) ⟨l, D, g⟩) : W C ⟨l, D, g⟩ (compareOp .Eq (.bool a) (.bool b)) Q := fun s E H => PyProof.Rows.eq_bool ⟨_, h, H⟩
theorem pow_small {j : Nat} (h : j ≤ 16) : ((2 : Int) ^ j) ≠ 0 ∧ ((2 : Int) ^ j).natAbs < 1073741824 :=
  ⟨Int.ne_of_gt (kbt_pos j), by rw [Int.natAbs_pow]; exact Nat.lt_of_le_of_lt (Nat.pow_le_pow_right (by decide) h) (by decide)⟩
theorem Pow2 {j : Nat} {t u : Tok} {Q : Value → AS → Prop} (hj : j ≤ 16) (h : ∀ t, Q (.int (2 ^ j) t) ⟨l, D, g⟩) : W C ⟨l, D, g⟩ (binaryOp .Pow (.int 2 t) (.int j u)) Q :=
  Pow_int (by omega) (by omega) (by decide) fun t => by rw [Int.toNat_natCast]; exact h t
theorem Div2 {a : Int} {j : Nat} {t u : Tok} {Q : Value → AS → Prop} (hj : j ≤ 16) (h : ∀ t, Q (.int (a.fdiv (2 ^ j)) t) ⟨l, D, g⟩) : W C ⟨l, D, g⟩ (binaryOp .FloorDiv (.int a t) (.int (2 ^ j) u)) Q :=
  Div_int (pow_small hj).1 (pow_small hj).2 h
theorem ItemN {value slice : Expr} {a : Addr} {its : List Value} {k : Nat} {u : Tok} {x : Value} {Q : Value → AS → Prop} (kl : Kn C D a (listP its)) (hx : its[k]? = some x) (hk : k < 1000000) (h : Q x ⟨l, D, g⟩)
    (hs : subscripted slice false (.ref a) (.int k u) = operate [.ref a, .int k u] (getItem (.ref a) (.int k u)) := by with_unfolding_all rfl) : W C ⟨l, D, g⟩ (subscriptTail value slice (.ref a) (.int k u)) Q :=
  Item_list (fun s H => kl.list H) (by omega) (by omega) (by rw [Int.toNat_natCast]; exact hx) h hs
theorem Name_free0 {x : Str} {pos : Pos} {v : Value} {c : Addr} {Q : Value → AS → Prop} (hc : env.cells.lookup x = some c) (hv : C.h₀.IsCell c (some v)) (h : Q v ⟨l, D, g⟩)
    (hk : env.scope.kind = .function := by kernel_rfl) (hl : env.kindOf x = some .free := by kernel_rfl) (hd : (x == ("__debug__" : Str)) = false := by kernel_rfl) (hn : (x == ("__classdict__" : Str)) = false := by kernel_rfl) :
    W C ⟨l, D, g⟩ (eval (.Name x pos) env) Q := fun s E H => wpAny_Name (wpAny_loadName_free hk hl hc (hv.keeps H.keep) ⟨_, h, H⟩ hn) hd
theorem Sum_ints {a : Addr} {vs : List Value} {ns : List Int} {Q : Value → AS → Prop} (hh : C.A.handled = none) (ka : Kn C D a (listP vs)) (ia : IntsAre vs ns) (h : ∀ t, Q (.int ns.sum t) ⟨l, D, g⟩) : W C ⟨l, D, g⟩ (call (.builtin "sum") [.ref a]) Q := fun s E H => by
  have hl := ka.list H
  obtain ⟨xs, e⟩ := AllInts.items ia.allInts
  rw [e] at hl
  refine sum_intListG hh hl fun h' tk t' hk => ⟨_, ?_, H.keeps hk tk⟩
  have e2 := ia.numsOf
  rw [show vs = vs.toArray.toList from rfl, e, nums_intItems] at e2
  have := h t'
  rw [preSum_eq, List.take_of_length_le (by simp), e2]; exact this
end
end
section
open PySem.Calls
/-- the places asked that do not hold, from place j on -/
def bitOf (m : Int) (k : Nat) : Int := (m.fdiv (2 ^ k)).fmod 2
def fails (ws : List Int) (m : Int) : Nat → Nat → List Int
  | _, 0 => []
  | j, n + 1 => if decide (0 < ws.getD j 0) && (bitOf m j != ws.getD j 0 - 1) then (j : Int) :: fails ws m (j + 1) n else fails ws m (j + 1) n
def kindsL : List Int := [1, 2, 4, 6, 8, 10, 12]
def topOf (m : Int) : Int := (m.fdiv 4096).fmod 16
def holdsV (kind : Int) (ws : List Int) (m : Int) : Bool :=
  if fails ws m 0 12 = [] then if kind = 0 then true else if kind < 8 then topOf m == kindsL.getD (kind - 1).toNat 0 else (kindsL.any (· == topOf m)) == (kind == 9) else false
def testOf : Stmt → Expr
  | .If (.Compare a _ _ _) _ _ _ => a
  | _ => .Constant .none 0 ⟨0, 0, 0, 0⟩
def valOf : Stmt → Expr
  | .Assign _ v _ => v
  | _ => .Constant .none 0 ⟨0, 0, 0, 0⟩
def hComp : Expr := testOf ((bodyAt 32).getD 1 (.Pass ⟨0, 0, 0, 0⟩))
section
variable {C : Cx} {g : Array GenState} {mg mb : Str → Option Value} {cl : List (Str × Addr)} {cd : Value} {a I wa cw cm fa L₀ : Addr} {vs : List Value} {ws : List Int} {m : Int} {tm : Tok}
set_option maxHeartbeats 1000000 in
theorem holds_comp {elt target iter c : Expr} {scope : Scope} {pos : Pos} (hs : hComp = compOf elt target iter [c] scope pos)
    (R : Room C.A 0) (kw : Kn C [] wa (listP vs)) (iw : IntsAre vs ws) (hlen : ws.length = 12) (cwk : C.h₀.IsCell cw (some (.ref wa))) (cmk : C.h₀.IsCell cm (some (.int m tm))) :
    ∀ (n j : Nat) (its : List Value) (ns : List Int) (o : Option Value), j + n = 12 → its.length ≤ j → IntsAre its ns →
      WComp C ⟨[(S "k", o)], [(a, listP its), (I, rangeIterP j n 1)], g⟩ (compOf elt target iter [c] scope pos) (.ref I) (.ref a) (compEnvC scope [(S "wish", cw), (S "mode", cm)] C.L (envOfC (S "_law_holds") (scopeAt 32) L₀ fa cd))
        fun σ' => ∃ o vs', IntsAre vs' (ns ++ fails ws m j n) ∧ σ' = ⟨[(S "k", o)], [(a, listP vs')], g⟩ := by
  cases hs
  intro n
  induction n with
  | zero =>
    intro j its ns o hj hz hi
    refine WComp.step1 (Next_range_end (left := ((0 : Nat) : Int)) R.handled (by omega) (by walk_at "rx m") (by walk_at "rx d") ?_)
    dsimp only
    exact ⟨o, its, by simpa [fails] using hi, rfl⟩
  | succ n ih =>
    intro j its ns o hj hz hi
    have hw : ws[j]? = some (ws.getD j 0) := by
      rw [List.getD_eq_getElem?_getD, List.getElem?_eq_getElem (by omega : j < ws.length)]; rfl
    obtain ⟨tw, hv⟩ := ints_get iw hw
    generalize hwj : ws.getD j 0 = wj at hv
    have key : ∀ (tk : Tok) (its' : List Value) (ns' : List Int), its'.length ≤ j + 1 → IntsAre its' ns' → ns' ++ fails ws m (j + 1) n = ns ++ fails ws m j (n + 1) →
        WComp C ⟨[(S "k", some (.int j tk))], [(a, listP its'), (I, rangeIterP ((j : Int) + 1) (((n + 1 : Nat) : Int) - 1) 1)], g⟩ _ (.ref I) (.ref a) (compEnvC _ [(S "wish", cw), (S "mode", cm)] C.L (envOfC (S "_law_holds") (scopeAt 32) L₀ fa cd))
          fun σ' => ∃ o vs', IntsAre vs' (ns ++ fails ws m j (n + 1)) ∧ σ' = ⟨[(S "k", o)], [(a, listP vs')], g⟩ := fun tk its' ns' h1 h2 h3 => by
      have := ih (j + 1) its' ns' (some (.int j tk)) (by omega) h1 h2
      rw [h3] at this
      have e : (((n + 1 : Nat) : Int) - 1) = (n : Int) := by omega
      rw [e]
      exact this
    refine WComp.step1 (Next_range (left := ((n + 1 : Nat) : Int)) (by omega) (by walk_at "rx ud") fun tk => ?_)
    dsimp only
    refine let_plain (Assign_target (Store_local (by walk_at "rx u") ?_))
    refine And_cons (Test_cmp (Sub_ (Name_cell0 (by rfl) cwk (Name_local (by walk_at "rx m") (ItemN kw.old hv (by omega) (Const_int fun t0 => Gt_int ⟨_, rfl, ?_⟩))))))
    refine ite_b (fun h0 => ?_) (fun h0 => ?_)
    · refine And_cons (Test_cmp (BinOp_ (BinOp_ (Name_cell0 (by rfl) cmk (BinOp_ (Const_int fun t1 => Name_local (by walk_at "rx m") (Pow2 (by omega) fun t2 => Div2 (by omega) fun t3 => Const_int fun t4 => Mod_int (by decide) fun t5 => BinOp_ (Sub_ (Name_cell0 (by rfl) cwk (Name_local (by walk_at "rx m") (ItemN kw.old hv (by omega) (Const_int fun t6 => Sub_int fun t7 => Ne_int ⟨_, rfl, ?_⟩))))))))))))
      refine ite_b (fun h1 => ?_) (fun h1 => ?_)
      · refine And_nil (ite_t ?_)
        refine Name_local (by walk_at "rx m") ⟨a, its, _, rfl, by omega, by walk_at "rx ud", ?_⟩
        refine key tk _ (ns ++ [(j : Int)]) (by simp only [List.length_append, List.length_singleton]; omega) (ints_snoc hi _ _) ?_
        rw [fails, hwj, if_pos (by rw [h0]; exact h1)]; simp
      · refine ite_f ?_
        refine key tk its ns (by omega) hi ?_
        rw [fails, hwj, if_neg (by rw [h0]; exact ne_true_of_eq_false h1)]
    · refine ite_f ?_
      refine key tk its ns (by omega) hi ?_
      rw [fails, hwj, if_neg (by rw [h0]; exact Bool.false_ne_true)]
end
theorem In.at_ {C C' : Cx} {σ : AS} (i : In C C' σ) (L : Addr) : In C { C' with L := L } σ := ⟨i.prog, i.w, i.A, i.keep, i.led⟩
set_option maxHeartbeats 1000000 in
theorem holds_call {C : Cx} {l : Loc} {D : Led} {g : Array GenState} {mg mb : Str → Option Value} {fa wa : Addr} {kind m : Int} {tk tm : Tok} {vs : List Value} {ws : List Int} {k : Nat} {Q : Value → AS → Prop} (G : Gl C.h₀ mg mb)
    (F : Def C.h₀ mg 32 (S "_law_holds") fa) (hr : mg (S "range") = none) (hb : mb (S "range") = some (.type "range")) (R : Room C.A (k + 1)) (kw : Kn C D wa (listP vs)) (iw : IntsAre vs ws) (hlen : ws.length = 12) (hk0 : 0 ≤ kind)
    (h : Q (.bool (holdsV kind ws m)) ⟨l, D, g⟩) : W C ⟨l, D, g⟩ (call (.ref fa) [.int kind tk, .ref wa, .int m tm]) Q := by
  refine Call_cells (l' := [(S "kind", some (.int kind tk)), (S "kinds", none), (S "top", none)]) (binds := [(S "kind", .int kind tk), (S "wish", .ref wa), (S "mode", .int m tm)])
    (cells := fun L => [(L + 2, cellP (some (.int m tm))), (L + 1, cellP (some (.ref wa)))]) G F R (fun _ _ _ => by rfl) ?_ ?_ (by simp only [List.map_cons, List.map_nil]; decide +kernel) (fun _ _ => by rfl) ?_ ?_ ?_
  · intro L x hx
    simp only [List.mem_cons, List.not_mem_nil, or_false] at hx
    rcases hx with rfl | rfl | rfl
    · exact .inl (by kernel_rfl)
    · exact .inr ⟨by kernel_rfl, by rfl⟩
    · exact .inr ⟨by kernel_rfl, by rfl⟩
  · intro L cd p hp
    simp only [List.mem_cons, List.not_mem_nil, or_false] at hp
    rcases hp with rfl | rfl | rfl <;> rfl
  · intro L
    show [L + 2, L + 1].Nodup ∧ ∀ c ∈ [L + 2, L + 1], L < c
    refine ⟨by simp, fun c hc => ?_⟩
    simp only [List.mem_cons, List.not_mem_nil, or_false] at hc
    rcases hc with rfl | rfl <;> exact Nat.lt_add_of_pos_right (by decide)
  · intro L p hp
    have hp' : p ∈ [(S "mode", L + 2), (S "wish", L + 1)] := hp
    simp only [List.mem_cons, List.not_mem_nil, or_false] at hp'
    rcases hp' with rfl | rfl <;> rfl
  intro C' cd Su R' G'
  dsimp only
  have kw' : ∀ D', Kn C' D' wa (listP vs) := fun D' => kw.sub (σ := ⟨l, D, g⟩) Su
  change W C' _ (execs (_ :: _ :: _ :: _ :: _ :: _) _) _
  refine Execs_cons <| Assign_Name <| List_disp <| Args_cons <| Const_int fun t1 => Args_cons <| Const_int fun t2 => Args_cons <| Const_int fun t3 => Args_cons <| Const_int fun t4 => Args_cons <| Const_int fun t5 => Args_cons <| Const_int fun t6 => Args_cons <| Const_int fun t7 => Args_nil ⟨show (7 : Nat) ≤ sizeLine from by decide, fun ka => ?_⟩
  refine Store_local (by walk_at "rx u") (Execs_cons (If_ (Test_cmp ?_)))
  refine ListComp_ [(S "k", none)] [(S "wish", C'.L + 1), (S "mode", C'.L + 2)] (by rfl) (by decide +kernel) (by kernel_rfl) (by decide +kernel) (by simp) (by simp) (by simp only [List.map_cons, List.map_nil]; decide +kernel) ?_
  refine Call_ty G' hr hb (Args_cons (Const_int fun t8 => Args_nil (Range1 fun ra => ?_)))
  intro C2 I2
  refine Iter_range (a := 0) (b := 12) (c := 1) (fun s H => ?_) (by rfl) fun I => ?_
  · obtain ⟨o, ho, hp⟩ := I2.led (ra, rangeP 0 12 1) (List.Mem.head _)
    exact ⟨o, H.keep _ _ ho, hp⟩
  intro L a
  refine ⟨fun Q' q => Self_range (by walk_at "rx m") q, ?_⟩
  have c1 : C2.h₀.IsCell (C'.L + 1) (some (.ref wa)) := by
    obtain ⟨o, ho, hp⟩ := I2.led (C'.L + 1, cellP (some (.ref wa))) (by walk_at "rx m")
    exact ⟨o, ho, hp⟩
  have c2 : C2.h₀.IsCell (C'.L + 2) (some (.int m tm)) := by
    obtain ⟨o, ho, hp⟩ := I2.led (C'.L + 2, cellP (some (.int m tm))) (by walk_at "rx m")
    exact ⟨o, ho, hp⟩
  have Rc : Room C2.A 0 := by rw [I2.A]; exact R'.less (by omega)
  refine WComp.mono (holds_comp (C := { C2 with L := L }) (by rfl) Rc ((kw' _).inn (I2.at_ L)) iw hlen c1 c2 12 0 [] [] none rfl (Nat.zero_le _) .nil) ?_
  rintro σ' ⟨o, vs', iv, rfl⟩
  refine ⟨by simp, [(a, listP vs')], List.Sublist.refl _, ?_⟩
  dsimp only [List.cons_append, List.nil_append]
  refine List_disp (Args_nil ⟨by decide, fun b => ?_⟩)
  refine Ne_ints (ns := fails ws m 0 12) (ms := []) (.inr (by walk_at "rx m")) (.inr (by walk_at "rx m")) (by simpa using iv) .nil (by have := R'.units; omega) ⟨_, rfl, ?_⟩
  refine ite_b (fun hf => ?_) (fun hf => ?_)
  · refine Execs_cons (Return_ (Const_bool ⟨[], List.nil_sublist _, ?_⟩))
    have : holdsV kind ws m = false := by
      rw [holdsV, if_neg (by simpa using hf)]
    rw [this] at h; exact h
  · have hf0 : fails ws m 0 12 = [] := by simpa using hf
    rw [holdsV, if_pos hf0] at h
    refine Execs_nil <| Execs_cons <| Assign_Name <| BinOp_ <| BinOp_ <| Name_cell (by rfl) (by walk_at "rx m") <| Const_int fun t9 => Div_int (by decide) (by decide) fun t10 => Const_int fun t11 => Mod_int (by decide) fun t12 => Store_local (by walk_at "rx u") ?_
    refine Execs_cons <| If_ <| Test_cmp <| Name_local (by walk_at "rx m") <| Const_int fun t13 => Eq_int ⟨_, rfl, ?_⟩
    refine ite_b (fun h0 => ?_) (fun h0 => ?_)
    · rw [if_pos (by simpa using h0)] at h
      exact Execs_cons <| Return_ <| Const_bool ⟨[], List.nil_sublist _, h⟩
    rw [if_neg (by simpa using h0)] at h
    have hk1 : kind ≠ 0 := by simpa using h0
    refine Execs_nil <| Execs_cons <| If_ <| Test_cmp <| Name_local (by walk_at "rx m") <| Const_int fun t14 => Lt_int ⟨_, rfl, ?_⟩
    have ik : IntsAre [Value.int 1 t1, .int 2 t2, .int 4 t3, .int 6 t4, .int 8 t5, .int 10 t6, .int 12 t7] kindsL := .cons _ _ <| .cons _ _ <| .cons _ _ <| .cons _ _ <| .cons _ _ <| .cons _ _ <| .cons _ _ .nil
    refine ite_b (fun h1 => ?_) (fun h1 => ?_)
    · rw [if_pos (by simpa using h1)] at h
      have hk7 : kind < 8 := by simpa using h1
      obtain ⟨j, hj⟩ : ∃ j : Nat, kind - 1 = j := ⟨(kind - 1).toNat, by omega⟩
      have hj7 : j < 7 := by omega
      have hx : kindsL[j]? = some (kindsL.getD (kind - 1).toNat 0) := by
        rw [hj, Int.toNat_natCast, List.getD_eq_getElem?_getD, List.getElem?_eq_getElem (show j < kindsL.length from hj7)]; rfl
      obtain ⟨tx, hx'⟩ := ints_get ik hx
      refine Execs_cons <| Return_ <| Cmp_ <| Name_local (by walk_at "rx m") <| Sub_ <| Name_local (by walk_at "rx m") <| BinOp_ <| Name_local (by walk_at "rx m") <| Const_int fun t15 => Sub_int fun t16 => ?_
      rw [hj]
      exact ItemN (.inr (by walk_at "rx m")) hx' (by omega) <| Eq_int ⟨[], List.nil_sublist _, h⟩
    · rw [if_neg (by simpa using h1)] at h
      refine Execs_nil <| Execs_cons <| Return_ <| Cmp_ <| Cmp_ <| Name_local (by walk_at "rx m") <| Name_local (by walk_at "rx m") <| In_ints (.inr (by walk_at "rx m")) ik <| Cmp_ <| Name_local (by walk_at "rx m") <| Const_int fun t17 => Eq_int <| Eq_bool ⟨[], List.nil_sublist _, h⟩
end
section
open PySem.Calls
def mComp1 : Expr := valOf ((bodyAt 33).getD 0 (.Pass ⟨0, 0, 0, 0⟩))
def argOf : Expr → Expr
  | .Call _ (a :: _) _ _ => a
  | e => e
def retOf : Stmt → Expr
  | .Return (some e) _ => e
  | _ => .Constant .none 0 ⟨0, 0, 0, 0⟩
def rightOf : Expr → Expr
  | .BinOp _ _ b _ => b
  | e => e
def mComp2 : Expr := argOf (rightOf (retOf ((bodyAt 33).getD 2 (.Pass ⟨0, 0, 0, 0⟩))))
theorem pow_mul {a : Int} {j : Nat} (h : j ≤ 16) : IntMulOk a (2 ^ j) := by
  have h1 := (pow_small h).2
  have h2 := kbt_pos j
  exact IntMulOk.of_right (intBits_le_64 (by omega) (by omega))
theorem ints_nth {vs : List Value} {ns : List Int} (h : IntsAre vs ns) {j : Nat} (hj : j < ns.length) : ∃ n t, vs[j]? = some (.int n t) := by
  obtain ⟨t, e⟩ := ints_get h (List.getElem?_eq_getElem hj)
  exact ⟨_, t, e⟩
section
variable {C : Cx} {g : Array GenState} {cd : Value} {a I wa la cw cm cl fa L₀ : Addr} {vs : List Value} {ws : List Int} {m : Int} {tm : Tok}
set_option maxHeartbeats 1000000 in
theorem made_comp1 {elt target iter : Expr} {scope : Scope} {pos : Pos} (hs : mComp1 = compOf elt target iter [] scope pos)
    (R : Room C.A 0) (kw : Kn C [] wa (listP vs)) (iw : IntsAre vs ws) (hlen : ws.length = 12) (cwk : C.h₀.IsCell cw (some (.ref wa))) (cmk : C.h₀.IsCell cm (some (.int m tm))) :
    ∀ (n j : Nat) (its : List Value) (ns : List Int) (o : Option Value), j + n = 12 → its.length ≤ j → ns.length = j → IntsAre its ns →
      WComp C ⟨[(S "k", o)], [(a, listP its), (I, rangeIterP j n 1)], g⟩ (compOf elt target iter [] scope pos) (.ref I) (.ref a) (compEnvC scope [(S "wish", cw), (S "mode", cm)] C.L (envOfC (S "_law_made") (scopeAt 33) L₀ fa cd))
        fun σ' => ∃ o vs' ns', IntsAre vs' ns' ∧ ns'.length = 12 ∧ σ' = ⟨[(S "k", o)], [(a, listP vs')], g⟩ := by
  cases hs
  intro n
  induction n with
  | zero =>
    intro j its ns o hj hz hn hi
    refine WComp.step0 (Next_range_end (left := ((0 : Nat) : Int)) R.handled (by omega) (by walk_at "rx m") (by walk_at "rx d") ?_)
    dsimp only
    exact ⟨o, its, ns, hi, by omega, rfl⟩
  | succ n ih =>
    intro j its ns o hj hz hn hi
    obtain ⟨wj, tw, hv⟩ := ints_nth iw (j := j) (by omega)
    have key : ∀ (tk : Tok) (x : Int) (tx : Tok),
        WComp C ⟨[(S "k", some (.int j tk))], [(a, listP (its ++ [.int x tx])), (I, rangeIterP ((j : Int) + 1) (((n + 1 : Nat) : Int) - 1) 1)], g⟩ _ (.ref I) (.ref a) (compEnvC _ [(S "wish", cw), (S "mode", cm)] C.L (envOfC (S "_law_made") (scopeAt 33) L₀ fa cd))
          fun σ' => ∃ o vs' ns', IntsAre vs' ns' ∧ ns'.length = 12 ∧ σ' = ⟨[(S "k", o)], [(a, listP vs')], g⟩ := fun tk x tx => by
      have := ih (j + 1) (its ++ [.int x tx]) (ns ++ [x]) (some (.int j tk)) (by omega) (by simp only [List.length_append, List.length_singleton]; omega) (by simp only [List.length_append, List.length_singleton]; omega) (ints_snoc hi _ _)
      have e : (((n + 1 : Nat) : Int) - 1) = (n : Int) := by omega
      rw [e]
      exact this
    refine WComp.step0 (Next_range (left := ((n + 1 : Nat) : Int)) (by omega) (by walk_at "rx ud") fun tk => ?_)
    dsimp only
    refine let_plain <| Assign_target <| Store_local (by walk_at "rx u") ?_
    refine IfExp_ <| Test_cmp <| Sub_ <| Name_cell0 (by rfl) cwk <| Name_local (by walk_at "rx m") <| ItemN kw.old hv (by omega) <| Const_int fun t0 => Gt_int ⟨_, rfl, ?_⟩
    refine ite_b (fun h0 => ?_) (fun h0 => ?_)
    · refine BinOp_ <| Sub_ <| Name_cell0 (by rfl) cwk <| Name_local (by walk_at "rx m") <| ItemN kw.old hv (by omega) <| Const_int fun t6 => Sub_int fun t7 => ?_
      exact ⟨a, its, _, rfl, by omega, by walk_at "rx ud", key _ _ _⟩
    · refine BinOp_ <| BinOp_ <| Name_cell0 (by rfl) cmk <| BinOp_ <| Const_int fun t1 => Name_local (by walk_at "rx m") <| Pow2 (by omega) fun t2 => Div2 (by omega) fun t3 => Const_int fun t4 => Mod_int (by decide) fun t5 => ?_
      exact ⟨a, its, _, rfl, by omega, by walk_at "rx ud", key _ _ _⟩
set_option maxHeartbeats 1000000 in
theorem made_comp2 {elt target iter : Expr} {scope : Scope} {pos : Pos} (hs : mComp2 = compOf elt target iter [] scope pos)
    (R : Room C.A 0) (kw : Kn C [] la (listP vs)) (iw : IntsAre vs ws) (hlen : ws.length = 12) (clk : C.h₀.IsCell cl (some (.ref la))) :
    ∀ (n j : Nat) (its : List Value) (ns : List Int) (o : Option Value), j + n = 12 → its.length ≤ j → IntsAre its ns →
      WComp C ⟨[(S "k", o)], [(a, listP its), (I, rangeIterP j n 1)], g⟩ (compOf elt target iter [] scope pos) (.ref I) (.ref a) (compEnvC scope [(S "low", cl)] C.L (envOfC (S "_law_made") (scopeAt 33) L₀ fa cd))
        fun σ' => ∃ o vs' ns', IntsAre vs' ns' ∧ σ' = ⟨[(S "k", o)], [(a, listP vs')], g⟩ := by
  cases hs
  intro n
  induction n with
  | zero =>
    intro j its ns o hj hz hi
    refine WComp.step0 (Next_range_end (left := ((0 : Nat) : Int)) R.handled (by omega) (by walk_at "rx m") (by walk_at "rx d") ?_)
    dsimp only
    exact ⟨o, its, ns, hi, rfl⟩
  | succ n ih =>
    intro j its ns o hj hz hi
    obtain ⟨wj, tw, hv⟩ := ints_nth iw (j := j) (by omega)
    have key : ∀ (tk : Tok) (x : Int) (tx : Tok),
        WComp C ⟨[(S "k", some (.int j tk))], [(a, listP (its ++ [.int x tx])), (I, rangeIterP ((j : Int) + 1) (((n + 1 : Nat) : Int) - 1) 1)], g⟩ _ (.ref I) (.ref a) (compEnvC _ [(S "low", cl)] C.L (envOfC (S "_law_made") (scopeAt 33) L₀ fa cd))
          fun σ' => ∃ o vs' ns', IntsAre vs' ns' ∧ σ' = ⟨[(S "k", o)], [(a, listP vs')], g⟩ := fun tk x tx => by
      have := ih (j + 1) (its ++ [.int x tx]) (ns ++ [x]) (some (.int j tk)) (by omega) (by simp only [List.length_append, List.length_singleton]; omega) (ints_snoc hi _ _)
      have e : (((n + 1 : Nat) : Int) - 1) = (n : Int) := by omega
      rw [e]
      exact this
    refine WComp.step0 (Next_range (left := ((n + 1 : Nat) : Int)) (by omega) (by walk_at "rx ud") fun tk => ?_)
    dsimp only
    refine let_plain <| Assign_target <| Store_local (by walk_at "rx u") ?_
    refine BinOp_ <| Sub_ <| Name_cell0 (by rfl) clk <| Name_local (by walk_at "rx m") <| ItemN kw.old hv (by omega) <| BinOp_ <| Const_int fun t1 => Name_local (by walk_at "rx m") <| Pow2 (by omega) fun t2 => Mul_int (pow_mul (by omega)) fun t3 => ?_
    exact ⟨a, its, _, rfl, by omega, by walk_at "rx ud", key _ _ _⟩
end
set_option maxHeartbeats 1000000 in
theorem made_call {C : Cx} {l : Loc} {D : Led} {g : Array GenState} {mg mb : Str → Option Value} {fa wa : Addr} {kind : Nat} {m : Int} {tk tm : Tok} {vs : List Value} {ws : List Int} {k : Nat} {Q : Value → AS → Prop} (G : Gl C.h₀ mg mb)
    (F : Def C.h₀ mg 33 (S "_law_made") fa) (hr : mg (S "range") = none) (hb : mb (S "range") = some (.type "range")) (hsn : mg (S "sum") = none) (hsb : mb (S "sum") = some (.builtin "sum")) (R : Room C.A (k + 1)) (kw : Kn C D wa (listP vs)) (iw : IntsAre vs ws) (hlen : ws.length = 12)
    (hk0 : kind < 10) (h : ∀ v t, Q (.int v t) ⟨l, D, g⟩) : W C ⟨l, D, g⟩ (call (.ref fa) [.int kind tk, .ref wa, .int m tm]) Q := by
  refine Call_cells (l' := [(S "kind", some (.int kind tk)), (S "top", none)]) (binds := [(S "kind", .int kind tk), (S "wish", .ref wa), (S "mode", .int m tm)])
    (cells := fun L => [(L + 3, cellP none), (L + 2, cellP (some (.int m tm))), (L + 1, cellP (some (.ref wa)))]) G F R (fun _ _ _ => by rfl) ?_ ?_ (by simp only [List.map_cons, List.map_nil]; decide +kernel) (fun _ _ => by rfl) ?_ ?_ ?_
  · intro L x hx
    simp only [List.mem_cons, List.not_mem_nil, or_false] at hx
    rcases hx with rfl | rfl | rfl
    · exact .inl (by kernel_rfl)
    · exact .inr ⟨by kernel_rfl, by rfl⟩
    · exact .inr ⟨by kernel_rfl, by rfl⟩
  · intro L cd p hp
    simp only [List.mem_cons, List.not_mem_nil, or_false] at hp
    rcases hp with rfl | rfl <;> rfl
  · intro L
    show [L + 3, L + 2, L + 1].Nodup ∧ ∀ c ∈ [L + 3, L + 2, L + 1], L < c
    refine ⟨by simp, fun c hc => ?_⟩
    simp only [List.mem_cons, List.not_mem_nil, or_false] at hc
    rcases hc with rfl | rfl | rfl <;> exact Nat.lt_add_of_pos_right (by decide)
  · intro L p hp
    have hp' : p ∈ [(S "low", L + 3), (S "mode", L + 2), (S "wish", L + 1)] := hp
    simp only [List.mem_cons, List.not_mem_nil, or_false] at hp'
    rcases hp' with rfl | rfl | rfl <;> rfl
  intro C' cd Su R' G'
  dsimp only
  have kw' : ∀ D', Kn C' D' wa (listP vs) := fun D' => kw.sub (σ := ⟨l, D, g⟩) Su
  change W C' _ (execs (_ :: _ :: _ :: _) _) _
  refine Execs_cons (Assign_Name (hs := by rfl) ?_)
  refine ListComp_ [(S "k", none)] [(S "wish", C'.L + 1), (S "mode", C'.L + 2)] (by rfl) (by decide +kernel) (by kernel_rfl) (by decide +kernel) (by simp) (by simp) (by simp only [List.map_cons, List.map_nil]; decide +kernel) ?_
  refine Call_ty G' hr hb (Args_cons (Const_int fun t8 => Args_nil (Range1 fun ra => ?_)))
  intro C2 I2
  refine Iter_range (a := 0) (b := 12) (c := 1) (fun s H => ?_) (by rfl) fun I => ?_
  · obtain ⟨o, ho, hp⟩ := I2.led (ra, rangeP 0 12 1) (List.Mem.head _)
    exact ⟨o, H.keep _ _ ho, hp⟩
  intro L a
  refine ⟨fun Q' q => Self_range (by walk_at "rx m") q, ?_⟩
  have c1 : C2.h₀.IsCell (C'.L + 1) (some (.ref wa)) := by
    obtain ⟨o, ho, hp⟩ := I2.led (C'.L + 1, cellP (some (.ref wa))) (by walk_at "rx m")
    exact ⟨o, ho, hp⟩
  have c2 : C2.h₀.IsCell (C'.L + 2) (some (.int m tm)) := by
    obtain ⟨o, ho, hp⟩ := I2.led (C'.L + 2, cellP (some (.int m tm))) (by walk_at "rx m")
    exact ⟨o, ho, hp⟩
  have Rc : Room C2.A 0 := by rw [I2.A]; exact R'.less (by omega)
  refine WComp.mono (made_comp1 (C := { C2 with L := L }) (by rfl) Rc ((kw' _).inn (I2.at_ L)) iw hlen c1 c2 12 0 [] [] none rfl (Nat.zero_le _) rfl .nil) ?_
  rintro σ' ⟨o, ls, ns, il, hnl, rfl⟩
  refine ⟨by simp, [(a, listP ls)], List.Sublist.refl _, ?_⟩
  dsimp only [List.cons_append, List.nil_append]
  refine Store_cell (by rfl) (by walk_at "rx ud") ?_
  refine Execs_cons <| Assign_Name <| Sub_ <| List_disp <| Args_cons <| BinOp_ <| Name_cell (by rfl) (by walk_at "rx m") <| Const_int fun u0 => Div_int (by decide) (by decide) fun u1 => Args_cons <| Const_int fun u2 => Args_cons <| Const_int fun u3 => Args_cons <| Const_int fun u4 => Args_cons <| Const_int fun u5 => Args_cons <| Const_int fun u6 => Args_cons <| Const_int fun u7 => Args_cons <| Const_int fun u8 => Args_cons <| Const_int fun u9 => Args_cons <| Const_int fun u10 => Args_nil ⟨show (10 : Nat) ≤ sizeLine from by decide, fun ka => ?_⟩
  have ik : IntsAre [Value.int (m.fdiv 4096) u1, .int 1 u2, .int 2 u3, .int 4 u4, .int 6 u5, .int 8 u6, .int 10 u7, .int 12 u8, .int 0 u9, .int 8 u10] [m.fdiv 4096, 1, 2, 4, 6, 8, 10, 12, 0, 8] := .cons _ _ <| .cons _ _ <| .cons _ _ <| .cons _ _ <| .cons _ _ <| .cons _ _ <| .cons _ _ <| .cons _ _ <| .cons _ _ <| .cons _ _ .nil
  obtain ⟨x, tx, hx⟩ := ints_nth ik (j := kind) hk0
  refine Name_local (by walk_at "rx m") <| ItemN (.inr (by walk_at "rx m")) hx (by omega) <| Store_local (by walk_at "rx u") ?_
  refine Execs_cons <| Return_ <| BinOp_ <| BinOp_ <| Name_local (by walk_at "rx m") <| Const_int fun u11 => Mul_int (IntMulOk.of_right (by decide +kernel)) fun u12 => Call_bi G' hsn hsb <| Args_cons ?_
  refine ListComp_ [(S "k", none)] [(S "low", C'.L + 3)] (by rfl) (by decide +kernel) (by kernel_rfl) (by decide +kernel) (by simp) (by simp) (by simp only [List.map_cons, List.map_nil]; decide +kernel) ?_
  refine Call_ty G' hr hb (Args_cons (Const_int fun t8 => Args_nil (Range1 fun rb => ?_)))
  intro C3 I3
  refine Iter_range (a := 0) (b := 12) (c := 1) (fun s H => ?_) (by rfl) fun I => ?_
  · obtain ⟨o, ho, hp⟩ := I3.led (rb, rangeP 0 12 1) (List.Mem.head _)
    exact ⟨o, H.keep _ _ ho, hp⟩
  intro L3 a3
  refine ⟨fun Q' q => Self_range (by walk_at "rx m") q, ?_⟩
  have c3 : C3.h₀.IsCell (C'.L + 3) (some (.ref a)) := by
    obtain ⟨o, ho, hp⟩ := I3.led (C'.L + 3, cellP (some (.ref a))) (by walk_at "rx m")
    exact ⟨o, ho, hp⟩
  have k3 : Kn C3 [] a (listP ls) := .inl (I3.led (a, listP ls) (by walk_at "rx m"))
  have Rc3 : Room C3.A 0 := by rw [I3.A]; exact R'.less (by omega)
  refine WComp.mono (made_comp2 (C := { C3 with L := L3 }) (by rfl) Rc3 k3 il hnl c3 12 0 [] [] none rfl (Nat.zero_le _) .nil) ?_
  rintro σ' ⟨o3, vs3, ns3, i3, rfl⟩
  refine ⟨by simp, [(a3, listP vs3)], List.Sublist.refl _, ?_⟩
  dsimp only [List.cons_append, List.nil_append]
  refine Args_nil <| Sum_ints R'.handled (.inr (by walk_at "rx m")) i3 fun u13 => Add_int fun u14 => ?_
  exact ⟨[], List.nil_sublist _, h _ _⟩
end
section
open PySem.Calls PyProof.V PySem.Spec PySem.SeqAt
/-- a text by its signs -/
abbrev T (cs : List Nat) : Str := ⟨cs.toArray⟩
def sliceP (lv uv sv : Value) : Obj → Prop := fun o => o.cls = .type "slice" ∧ o.data = .fields #[lv, uv, sv]
theorem Kn.mem {C : Cx} {a : Addr} {P : Obj → Prop} {D : Led} (h : (a, P) ∈ D) : Kn C D a P := .inr h
def KnTo (C C' : Cx) (D D' : Led) : Prop := ∀ a P, Kn C D a P → Kn C' D' a P
theorem KnTo.sub {C C' : Cx} {σ : AS} {env : Env} {D' : Led} (Su : Sub C C' σ env) : KnTo C C' σ.D D' := fun _ _ k => k.sub Su
theorem KnTo.inn {C C' : Cx} {σ : AS} {D' : Led} (Su : In C C' σ) : KnTo C C' σ.D D' := fun _ _ k => k.inn Su
theorem KnTo.left {C : Cx} {D D' : Led} : KnTo C C D (D' ++ D) := fun _ _ k => by
  rcases k with h | h
  · exact .inl h
  · exact .inr (List.mem_append_right _ h)
theorem KnTo.cons {C : Cx} {D : Led} {p : Addr × (Obj → Prop)} : KnTo C C D (p :: D) := fun _ _ k => by
  rcases k with h | h
  · exact .inl h
  · exact .inr (.tail _ h)
theorem KnTo.trans {C C' C'' : Cx} {D D' D'' : Led} (h : KnTo C C' D D') (h' : KnTo C' C'' D' D'') : KnTo C C'' D D'' := fun _ _ k => h' _ _ (h _ _ k)
theorem KnTo.old {C : Cx} {D D' : Led} (h : ∀ p ∈ D, p ∈ D') : KnTo C C D D' := fun _ _ k => by
  rcases k with h' | h'
  · exact .inl h'
  · exact .inr (h _ h')
theorem Kn.tup {C : Cx} {l : Loc} {D : Led} {g : Array GenState} {s : Shared} {a : Addr} {its : List Value} (k : Kn C D a (tupP its)) (H : St C ⟨l, D, g⟩ s) : s.heap.IsTuple a its.toArray := by
  obtain ⟨o, h, h1, h2⟩ := k.obj H
  exact ⟨o, h, h1, h2⟩
theorem item_at {cs : List Nat} {k : Nat} {c : Nat} (h : cs[k]? = some c) : Txt.item (T cs) (k : Int) = strOf c := by
  have hlt : k < cs.length := (List.getElem?_eq_some_iff.mp h).1
  unfold Txt.item Txt.charAt
  have : seqIndex? (k : Int) (T cs).length = some k := by
    unfold seqIndex?
    simp [Str.length]
    omega
  rw [this]
  simp [h, strOf]
section
variable {C : Cx} {l : Loc} {D D' : Led} {g : Array GenState} {env : Env}
theorem Item_str {value slice : Expr} {cs : List Nat} {t u : Tok} {k c : Nat} {Q : Value → AS → Prop} (hx : cs[k]? = some c) (hk : k < 1000000) (h : ∀ t, Q (.str (strOf c) t) ⟨l, D, g⟩)
    (hs : subscripted slice false (.str (T cs) t) (.int k u) = operate [.str (T cs) t, .int k u] (getItem (.str (T cs) t) (.int k u)) := by with_unfolding_all rfl)
    (ht : ∀ r, letTemporaryGo value (.str (T cs) t) r = pure () := by intro _; with_unfolding_all rfl) : W C ⟨l, D, g⟩ (subscriptTail value slice (.str (T cs) t) (.int k u)) Q := fun s E H => by
  have hlt : k < cs.length := (List.getElem?_eq_some_iff.mp hx).1
  have hl : (T cs).length = cs.length := by simp [Str.length]
  refine item_str (by unfold fitsSsize; simp; omega) (by omega) (by rw [hl]; omega) (fun _ => ?_) hs ht
  rw [item_at hx]
  exact ⟨_, h _, H.toks _⟩
theorem Le_str {a b : Nat} {t u : Tok} {Q : Value → AS → Prop} (h : Q (.bool (decide (a ≤ b))) ⟨l, D, g⟩) : W C ⟨l, D, g⟩ (compareOp .LtE (.str (strOf a) t) (.str (strOf b) u)) Q := fun s E H => by
  refine PySem.P.le_str ?_
  have e : (!decide ((strOf b).cps.toList < (strOf a).cps.toList)) = decide (a ≤ b) := by
    show (!decide ([b] < [a])) = _
    by_cases h : a ≤ b
    · simp [h, List.cons_lt_cons_iff]
    · simp [h, List.cons_lt_cons_iff]; omega
  rw [e]
  exact ⟨_, h, H⟩
theorem Chain_test {x r1 r2 : Expr} {o1 o2 : CmpOp} {pos : Pos} {whole : Sem Value} {Q : Bool → AS → Prop}
    (h : W C ⟨l, D, g⟩ (eval x env) fun a σ₁ => W C σ₁ (eval r1 env) fun b σ₂ => W C σ₂ (compareOp o1 a b) fun c σ₃ => ∃ t, c = .bool t ∧ if t = true then W C σ₃ (eval r2 env) fun b' σ₄ => W C σ₄ (compareOp o2 b b') fun c' σ₅ => ∃ t', c' = .bool t' ∧ Q t' σ₅ else Q false σ₃)
    (hm : lastMarks [o1, o2] [r1, r2] = false := by with_unfolding_all rfl) : W C ⟨l, D, g⟩ (isTrue (.Compare x [o1, o2] [r1, r2] pos) env whole) Q := fun s E H => by
  refine isTrue_chain (wpAny_mono (h s E H) (fun a s₁ ⟨σ₁, q₁, H₁⟩ => test_link (wpAny_mono (q₁ s₁ E H₁) (fun b s₂ ⟨σ₂, q₂, H₂⟩ => wpAny_mono (q₂ s₂ E H₂) (fun c s₃ ⟨σ₃, ⟨t, e, q₃⟩, H₃⟩ => ?_) fun _ _ x => x) fun _ _ x => x)) fun _ _ x => x) hm
  subst e
  refine wpAny_truthy_bool ?_
  cases t with
  | false => exact ⟨σ₃, q₃, H₃⟩
  | true =>
    refine test_last (wpAny_mono (q₃ s₃ E H₃) (fun b' s₄ ⟨σ₄, q₄, H₄⟩ => wpAny_mono (q₄ s₄ E H₄) (fun c' s₅ ⟨σ₅, ⟨t', e', q₅⟩, H₅⟩ => ?_) fun _ _ x => x) fun _ _ x => x)
    subst e'
    exact wpAny_truthy_bool ⟨σ₅, q₅, H₅⟩
theorem Assign_tuple {elts : List Expr} {k : Nat} {tpos : Pos} {value : Expr} {pos : Pos} {Q : Flow → AS → Prop}
    (h : W C ⟨l, D, g⟩ (eval value env) fun v σ₁ => W C σ₁ (assign (.Tuple elts k tpos) env v) fun _ σ₂ => Q .next σ₂)
    (hs : swapsWithSole [.Tuple elts k tpos] value pos.line env = pure false := by rfl) (hw : swappedStores [.Tuple elts k tpos] value env = pure none := by rfl) :
    W C ⟨l, D, g⟩ (exec (.Assign [.Tuple elts k tpos] value pos) env) Q := fun s E H => Assign_Tuple (wpAny_mono (h s E H) (fun v s₁ ⟨σ₁, q₁, H₁⟩ => q₁ s₁ E H₁) fun _ _ x => x) hs hw
theorem readsAll_strs {h : Heap} : ∀ (ts : List (Str × Tok)), ReadsAll h (strValues ts) (ts.map fun p => PyData.str p.1) []
  | [] => .nil
  | (x, t) :: r => by
    have := ReadsAll.cons (Reads.str (h := h) x t) (readsAll_strs (h := h) r)
    simpa [strValues] using this
theorem canLayAll0_flat : ∀ (ds : List PyData), (∀ d ∈ ds, d.canLay0 = true ∧ d.depth ≤ 1) → PyData.canLayAll0 ds = true ∧ PyData.depthAll ds ≤ 1
  | [], _ => by simp [PyData.canLayAll0, PyData.depthAll]
  | d :: r, h => by
    have h1 := h d (.head _)
    have h2 := canLayAll0_flat r fun x hx => h x (.tail _ hx)
    refine ⟨by simp [PyData.canLayAll0, h1, h2], ?_⟩
    simp only [PyData.depthAll]
    omega
theorem shaped_flat (ds : List PyData) (h : ∀ d ∈ ds, d.canLay0 = true ∧ d.depth ≤ 1) : shaped (.list ds) = true := by
  obtain ⟨h1, h2⟩ := canLayAll0_flat ds h
  show (PyData.canLay0 (.list ds) && decide (PyData.depth (.list ds) ≤ 64)) = true
  rw [Bool.and_eq_true]
  exact ⟨by simp only [PyData.canLay0]; exact h1, decide_eq_true (by simp only [PyData.depth]; omega)⟩
theorem Ne_strs_nil {a b : Addr} {ts : List (Str × Tok)} {Q : Value → AS → Prop} (ka : Kn C D a (listP (strValues ts))) (kb : Kn C D b (listP [])) (hok : ∀ p ∈ ts, PyData.strOk p.1 = true) (hu : C.A.units ≤ 9000) (h : Q (.bool (!ts.isEmpty)) ⟨l, D, g⟩) :
    W C ⟨l, D, g⟩ (compareOp .NotEq (.ref a) (.ref b)) Q := fun s E H => by
  obtain ⟨o, ho, hc, n, hd⟩ := ka.list H
  obtain ⟨o', ho', hc', n', hd'⟩ := kb.list H
  refine ne_dataH_same (Reads.list ho hc hd (by simpa using readsAll_strs ts)) (Reads.list ho' hc' hd' .nil) (shaped_flat _ ?_) (shaped_flat [] (by simp)) (by show _ < 9900; omega) ?_ ?_
  · intro d hd
    obtain ⟨p, hp, rfl⟩ := List.mem_map.mp hd
    exact ⟨by simp only [PyData.canLay0]; exact hok p hp, by simp [PyData.depth]⟩
  · cases ts with
    | nil => simp [noMix, noMixAll]
    | cons p r => simp [noMix, noMixAll]
  · have : PySem.Spec.same (.list (ts.map fun p => PyData.str p.1)) (.list []) = ts.isEmpty := by
      cases ts with
      | nil => simp [PySem.Spec.same, PySem.Spec.sameAll]
      | cons p r => simp [PySem.Spec.same, PySem.Spec.sameAll]
    rw [this]
    exact ⟨_, h, H⟩
end
end
section
open PySem.Calls PyProof.V PySem.Spec PySem.SeqAt
def SpanV (C : Cx) (D : Led) (v : Value) (p : Nat × Nat) : Prop := ∃ t t1 t2, v = .ref t ∧ Kn C D t (tupP [.str (strOf p.1) t1, .str (strOf p.2) t2]) ∧ p.1 < 128
def ItemV (C : Cx) (D : Led) (v : Value) (it : Bool × List (Nat × Nat)) : Prop := ∃ t sp vs, v = .ref t ∧ Kn C D t (tupP [.bool it.1, .ref sp]) ∧ Kn C D sp (listP vs) ∧ Paired (SpanV C D) vs it.2
def ItemsV (C : Cx) (D : Led) (a : Addr) (its : List (Bool × List (Nat × Nat))) : Prop := ∃ vs, Kn C D a (listP vs) ∧ Paired (ItemV C D) vs its
section
variable {C C' : Cx} {D D' : Led}
theorem SpanV.to {v p} (x : SpanV C D v p) (h : KnTo C C' D D') : SpanV C' D' v p := let ⟨t, t1, t2, e, k, hb⟩ := x; ⟨t, t1, t2, e, h _ _ k, hb⟩
theorem ItemV.to {v p} (x : ItemV C D v p) (h : KnTo C C' D D') : ItemV C' D' v p := let ⟨t, sp, vs, e, k, k2, f⟩ := x; ⟨t, sp, vs, e, h _ _ k, h _ _ k2, paired_imp (fun _ _ r => r.to h) f⟩
theorem ItemsV.to {v p} (x : ItemsV C D v p) (h : KnTo C C' D D') : ItemsV C' D' v p := let ⟨vs, k, f⟩ := x; ⟨vs, h _ _ k, paired_imp (fun _ _ r => r.to h) f⟩
end
theorem paired_len {α β : Type} {R : α → β → Prop} : ∀ {l : List α} {m : List β}, Paired R l m → l.length = m.length
  | _, _, .nil => rfl
  | _, _, .cons _ t => by simp [paired_len t]
theorem drop_cons {α β : Type} {R : α → β → Prop} {vs : List α} {j : Nat} {b : β} {rest : List β} (hf : Paired R (vs.drop j) (b :: rest)) : ∃ v, vs[j]? = some v ∧ R v b ∧ Paired R (vs.drop (j + 1)) rest := by
  cases h : vs.drop j with
  | nil => rw [h] at hf; cases hf
  | cons x r =>
    rw [h] at hf
    cases hf with
    | cons h1 h2 =>
      refine ⟨x, ?_, h1, ?_⟩
      · have := congrArg (·[0]?) h
        simpa using this
      · have : vs.drop (j + 1) = r := by rw [← List.drop_drop, h]; rfl
        rw [this]; exact h2
theorem drop_nil' {α β : Type} {R : α → β → Prop} {vs : List α} {j : Nat} (hf : Paired R (vs.drop j) ([] : List β)) : vs[j]? = none := by
  have : vs.drop j = [] := by cases h : vs.drop j with | nil => rfl | cons x r => (rw [h] at hf; cases hf)
  exact List.getElem?_eq_none (List.drop_eq_nil_iff.mp this)
theorem range_size (n : Nat) : Builtin.Range.rangeSize 0 n 1 = (n : Int) := by
  rw [rangeSize_nat]; simp
theorem range_small {n : Nat} (h : n ≤ 1000) : Builtin.Range.small 0 n 1 = true := by
  unfold Builtin.Range.small
  rw [range_size]
  simp [Builtin.Range.rangeFitsLong]
  omega
def spanHits (c : Nat) (sp : List (Nat × Nat)) : Bool := sp.any fun p => decide (p.1 ≤ c) && decide (c ≤ p.2)
def takesV : List (Bool × List (Nat × Nat)) → List Nat → Bool
  | [], [] => true
  | (b, sp) :: r, c :: cs => if spanHits c sp == b then false else takesV r cs
  | _, _ => false
theorem takesV_len : ∀ {its : List (Bool × List (Nat × Nat))} {cs : List Nat}, its.length ≠ cs.length → takesV its cs = false
  | [], [], h => absurd rfl h
  | [], _ :: _, _ => rfl
  | _ :: _, [], _ => rfl
  | (b, sp) :: r, c :: cs, h => by
    have : r.length ≠ cs.length := fun e => h (by simp [e])
    simp [takesV, takesV_len this]
def bodyOf : Stmt → List Stmt
  | .For _ _ b _ _ => b
  | .While _ b _ _ => b
  | .If _ b _ _ => b
  | _ => []
def leftOf : Expr → Expr
  | .Compare a _ _ _ => a
  | .BinOp a _ _ _ => a
  | e => e
def testE : Stmt → Expr
  | .If t _ _ _ => t
  | .While t _ _ _ => t
  | _ => .Constant .none 0 ⟨0, 0, 0, 0⟩
abbrev noStmt : Stmt := .Pass ⟨0, 0, 0, 0⟩
def tLoop : Stmt := (bodyAt 35).getD 1 noStmt
def tComp : Expr := leftOf (leftOf (testE ((bodyOf tLoop).getD 1 noStmt)))
section
variable {C : Cx} {l : Loc} {D : Led} {g : Array GenState} {env : Env}
theorem Len_T {cs : List Nat} {t : Tok} {Q : Value → AS → Prop} (hz : cs.length ≤ 1000000) (h : ∀ u, Q (.int cs.length u) ⟨l, D, g⟩) : W C ⟨l, D, g⟩ (call (.builtin "len") [.str (T cs) t]) Q := by
  have e : (T cs).length = cs.length := by simp [Str.length]
  exact Len_str (by rw [e]; exact hz) fun u => by rw [e]; exact h u
theorem Len_L {a : Addr} {its : List Value} {Q : Value → AS → Prop} (k : Kn C D a (listP its)) (hz : its.length ≤ 1000000) (h : ∀ u, Q (.int its.length u) ⟨l, D, g⟩) : W C ⟨l, D, g⟩ (call (.builtin "len") [.ref a]) Q := Len_list (fun s H => k.list H) hz h
end
section
variable {C : Cx} {g : Array GenState} {cd : Value} {a I sp ck ct fa L₀ : Addr} {cs : List Nat} {c j : Nat} {tt tj : Tok} {vs : List Value}
set_option maxHeartbeats 1000000 in
theorem takes_comp {elt target iter tst : Expr} {scope : Scope} {pos : Pos} (hs : tComp = compOf elt target iter [tst] scope pos)
    (R : Room C.A 0) (ks : Kn C [] sp (listP vs)) (ctk : C.h₀.IsCell ct (some (.str (T cs) tt))) (ckk : C.h₀.IsCell ck (some (.int j tj))) (hc : cs[j]? = some c) (hj : j < 1000000) (hvs : vs.length ≤ 1000) :
    ∀ (rest : List (Nat × Nat)) (i : Nat) (ts : List (Str × Tok)) (o1 o2 : Option Value), ts.length ≤ i → Paired (SpanV C []) (vs.drop i) rest → (∀ p ∈ ts, PyData.strOk p.1 = true) →
      WComp C ⟨[(S "low", o1), (S "high", o2)], [(a, listP (strValues ts)), (I, listIterP sp i)], g⟩ (compOf elt target iter [tst] scope pos) (.ref I) (.ref a) (compEnvC scope [(S "text", ct), (S "k", ck)] C.L (envOfC (S "_law_takes") (scopeAt 35) L₀ fa cd))
        fun σ' => ∃ o1 o2 ts', ts'.isEmpty = (ts.isEmpty && !spanHits c rest) ∧ (∀ p ∈ ts', PyData.strOk p.1 = true) ∧ σ' = ⟨[(S "low", o1), (S "high", o2)], [(a, listP (strValues ts'))], g⟩ := by
  cases hs
  intro rest
  induction rest with
  | nil =>
    intro i ts o1 o2 hz hf hok
    refine WComp.step1 (Next_list_end (its := vs) R.handled (fun s H => ks.old.list H) (drop_nil' hf) (by walk_at "rx m") (by walk_at "rx d") ?_)
    dsimp only
    exact ⟨o1, o2, ts, by simp [spanHits], hok, rfl⟩
  | cons p rest ih =>
    intro i ts o1 o2 hz hf hok
    obtain ⟨v, hv, ⟨t, t1, t2, rfl, kt, hb⟩, hf'⟩ := drop_cons hf
    have hil : i < vs.length := (List.getElem?_eq_some_iff.mp hv).1
    obtain ⟨lo, hi⟩ := p
    have key : ∀ (ts' : List (Str × Tok)), ts'.length ≤ i + 1 → (∀ p ∈ ts', PyData.strOk p.1 = true) → ts'.isEmpty = (ts.isEmpty && !(decide (lo ≤ c) && decide (c ≤ hi))) →
        WComp C ⟨[(S "low", some (.str (strOf lo) t1)), (S "high", some (.str (strOf hi) t2))], [(a, listP (strValues ts')), (I, listIterP sp (i + 1))], g⟩ _ (.ref I) (.ref a) (compEnvC _ [(S "text", ct), (S "k", ck)] C.L (envOfC (S "_law_takes") (scopeAt 35) L₀ fa cd))
        fun σ' => ∃ o1 o2 ts', ts'.isEmpty = (ts.isEmpty && !spanHits c ((lo, hi) :: rest)) ∧ (∀ p ∈ ts', PyData.strOk p.1 = true) ∧ σ' = ⟨[(S "low", o1), (S "high", o2)], [(a, listP (strValues ts'))], g⟩ := fun ts' h1 h2 h3 => by
      have := ih (i + 1) ts' (some (.str (strOf lo) t1)) (some (.str (strOf hi) t2)) h1 hf' h2
      rw [h3] at this
      have e : ((ts.isEmpty && !(decide (lo ≤ c) && decide (c ≤ hi))) && !spanHits c rest) = (ts.isEmpty && !spanHits c ((lo, hi) :: rest)) := by
        show _ = (ts.isEmpty && !((decide (lo ≤ c) && decide (c ≤ hi)) || spanHits c rest))
        cases ts.isEmpty <;> cases (decide (lo ≤ c) && decide (c ≤ hi)) <;> cases spanHits c rest <;> rfl
      rw [e] at this
      exact this
    refine WComp.step1 (Next_list (its := vs) (fun s H => ks.old.list H) hv (by walk_at "rx ud") ?_)
    dsimp only
    refine let_list (by walk_at "rx m") ?_
    refine Assign_pair R.handled (fun s H => kt.old.tup H) (by walk_at "rx u") (by walk_at "rx u") ?_
    refine Chain_test <| Name_local (by walk_at "rx m") <| Sub_ <| Name_cell0 (by rfl) ctk <| Name_cell0 (by rfl) ckk <| Item_str hc hj fun t3 => Le_str ⟨_, rfl, ?_⟩
    refine ite_b (fun h1 => ?_) (fun h1 => ?_)
    · refine Name_local (by walk_at "rx m") <| Le_str ⟨_, rfl, ?_⟩
      refine ite_b (fun h2 => ?_) (fun h2 => ?_)
      · refine Name_local (by walk_at "rx m") ⟨a, _, _, rfl, ?_, by walk_at "rx ud", ?_⟩
        · simp only [strValues, List.length_map]; omega
        · have e : strValues ts ++ [.str (strOf lo) t1] = strValues (ts ++ [(strOf lo, t1)]) := by simp [strValues]
          dsimp only
          rw [e]
          refine key _ (by simp; omega) ?_ (by rw [h1, h2]; simp)
          intro p hp
          rcases List.mem_append.mp hp with hp | hp
          · exact hok p hp
          · cases List.mem_singleton.mp hp
            show (#[lo] : Array Nat).all (· < 0x110000) = true
            simp; omega
      · refine key ts (by omega) hok (by rw [h1, h2]; simp)
    · refine key ts (by omega) hok (by rw [h1]; simp)
end
section
variable {C : Cx} {g : Array GenState} {cd : Value} {r I ia fa : Addr} {cs : List Nat} {tt : Tok} {vs : List Value}
set_option maxHeartbeats 1000000 in
theorem takes_loop {target iter : Expr} {body orelse : List Stmt} {pos : Pos} (hs : tLoop = .For target iter body orelse pos) (R : Room C.A 0) (ki : Kn C [] ia (listP vs)) (hcs : cs.length ≤ 1000) :
    ∀ (rest : List (Bool × List (Nat × Nat))) (j : Nat) (o o1 o2 : Option Value), j + rest.length = cs.length → Paired (ItemV C []) (vs.drop j) rest → (∀ it ∈ rest, it.2.length ≤ 1000) →
      WLoop C ⟨[(S "items", some (.ref ia)), (S "barred", o1), (S "spans", o2)], [(I, rangeIterP j rest.length 1), (r, rangeP 0 cs.length 1), (C.L + 2, cellP o), (C.L + 1, cellP (some (.str (T cs) tt)))], g⟩ target (.ref I) body orelse (envOfC (S "_law_takes") (scopeAt 35) C.L fa cd)
        fun f σ' => (f = .next ∧ takesV rest (cs.drop j) = true ∨ f = .ret (.bool false) ∧ takesV rest (cs.drop j) = false) ∧ σ'.g = g := by
  cases hs
  intro rest
  induction rest with
  | nil =>
    intro j o o1 o2 hj hf hz
    refine WLoop.step (Next_range_end (left := ((0 : Nat) : Int)) R.handled (by omega) (by walk_at "rx m") (by walk_at "rx d") ?_)
    dsimp only
    have e : cs.drop j = [] := List.drop_eq_nil_of_le (by simp at hj; omega)
    exact Execs_nil ⟨.inl ⟨rfl, by rw [e]; rfl⟩, rfl⟩
  | cons it rest ih =>
    intro j o o1 o2 hj hf hz
    obtain ⟨b, spl⟩ := it
    obtain ⟨v, hv, ⟨t, sp, svs, rfl, kt, ksp, hsp⟩, hf'⟩ := drop_cons hf
    rw [List.length_cons] at hj
    have hjl : j < cs.length := by omega
    have hc : cs[j]? = some cs[j] := List.getElem?_eq_getElem hjl
    have hd : cs.drop j = cs[j] :: cs.drop (j + 1) := List.drop_eq_getElem_cons hjl
    have hspl : svs.length ≤ 1000 := by rw [paired_len hsp]; exact hz _ (.head _)
    refine WLoop.step (Next_range (left := ((rest.length + 1 : Nat) : Int)) (by omega) (by walk_at "rx ud") fun tk => ?_)
    dsimp only
    refine let_plain <| Assign_target <| Store_cell (by rfl) (by walk_at "rx ud") ?_
    refine Execs_cons <| Assign_tuple <| Sub_ <| Name_local (by walk_at "rx m") <| Name_cell (by rfl) (by walk_at "rx m") <| ItemN ki.old hv (by omega) <| Assign_pair R.handled (fun s H => kt.old.tup H) (by walk_at "rx u") (by walk_at "rx u") ?_
    refine Execs_cons <| If_ <| Test_cmp <| Cmp_ ?_
    refine ListComp_ [(S "low", none), (S "high", none)] [(S "text", C.L + 1), (S "k", C.L + 2)] (by rfl) (by decide +kernel) (by kernel_rfl) (by decide +kernel) (by simp) (by simp) (by simp only [List.map_cons, List.map_nil]; decide +kernel) ?_
    refine Name_local (by walk_at "rx m") ?_
    intro C2 I2
    have ks2 : Kn C2 [] sp (listP svs) := ksp.old.inn I2
    refine Iter_list (its := svs) (fun s H => ks2.list H) fun J => ?_
    intro L a
    refine ⟨fun Q' q => Self_list (by walk_at "rx m") q, ?_⟩
    have c1 : C2.h₀.IsCell (C.L + 1) (some (.str (T cs) tt)) := by
      obtain ⟨o, ho, hp⟩ := I2.led (C.L + 1, cellP (some (.str (T cs) tt))) (by walk_at "rx m")
      exact ⟨o, ho, hp⟩
    have c2 : C2.h₀.IsCell (C.L + 2) (some (.int j tk)) := by
      obtain ⟨o, ho, hp⟩ := I2.led (C.L + 2, cellP (some (.int j tk))) (by walk_at "rx m")
      exact ⟨o, ho, hp⟩
    have Rc : Room C2.A 0 := by rw [I2.A]; exact R
    refine WComp.mono (takes_comp (C := { C2 with L := L }) (by rfl) Rc ks2 c1 c2 hc (by omega) hspl spl 0 [] none none (Nat.zero_le _) (paired_imp (fun _ _ x => x.to (KnTo.inn (I2.at_ L))) (paired_imp (fun _ _ x => x.to (KnTo.old (fun p hp => nomatch hp))) hsp)) (by simp)) ?_
    rintro σ' ⟨x1, x2, ts', he, hok, rfl⟩
    refine ⟨by simp, [(a, listP (strValues ts'))], List.Sublist.refl _, ?_⟩
    dsimp only [List.cons_append, List.nil_append]
    refine List_disp <| Args_nil ⟨show (0 : Nat) ≤ sizeLine from by decide, fun bb => ?_⟩
    refine Ne_strs_nil (.inr (by walk_at "rx m")) (.inr (by walk_at "rx m")) hok (by have := R.units; omega) ?_
    refine Name_local (by walk_at "rx m") <| Eq_bool ⟨_, rfl, ?_⟩
    have hh : (!ts'.isEmpty) = spanHits cs[j] spl := by rw [he]; simp
    rw [hh]
    refine ite_b (fun h1 => ?_) (fun h1 => ?_)
    · refine Execs_cons <| Return_ <| Const_bool ⟨.inr ⟨rfl, ?_⟩, rfl⟩
      rw [hd, takesV, if_pos h1]
    · refine Execs_nil <| Execs_end (D' := [(I, rangeIterP ((j : Int) + 1) (((rest.length + 1 : Nat) : Int) - 1) 1), (r, rangeP 0 cs.length 1), (C.L + 2, cellP (some (.int j tk))), (C.L + 1, cellP (some (.str (T cs) tt)))]) (by walk_at "rx s") ?_
      have := ih (j + 1) (some (.int j tk)) (some (.bool b)) (some (.ref sp)) (by omega) hf' (fun it h => hz it (.tail _ h))
      have e : (((rest.length + 1 : Nat) : Int) - 1) = (rest.length : Int) := by omega
      rw [hd, takesV, if_neg (ne_true_of_eq_false h1)]
      dsimp only
      rw [e]
      exact this
set_option maxHeartbeats 1000000 in
theorem takes_call {l : Loc} {D : Led} {mg mb : Str → Option Value} {its : List (Bool × List (Nat × Nat))} {k : Nat} {Q : Value → AS → Prop} (G : Gl C.h₀ mg mb)
    (F : Def C.h₀ mg 35 (S "_law_takes") fa) (hr : mg (S "range") = none) (hb : mb (S "range") = some (.type "range")) (hln : mg (S "len") = none) (hlb : mb (S "len") = some (.builtin "len")) (R : Room C.A (k + 1)) (ki : ItemsV C D ia its)
    (hz1 : its.length ≤ 1000) (hz2 : cs.length ≤ 1000) (hz : ∀ it ∈ its, it.2.length ≤ 1000)
    (h : Q (.bool (takesV its cs)) ⟨l, D, g⟩) : W C ⟨l, D, g⟩ (call (.ref fa) [.ref ia, .str (T cs) tt]) Q := by
  refine Call_cells (l' := [(S "items", some (.ref ia)), (S "barred", none), (S "spans", none)]) (binds := [(S "items", .ref ia), (S "text", .str (T cs) tt)])
    (cells := fun L => [(L + 2, cellP none), (L + 1, cellP (some (.str (T cs) tt)))]) G F R (fun _ _ _ => by rfl) ?_ ?_ (by simp only [List.map_cons, List.map_nil]; decide +kernel) (fun _ _ => by rfl) ?_ ?_ ?_
  · intro L x hx
    simp only [List.mem_cons, List.not_mem_nil, or_false] at hx
    rcases hx with rfl | rfl
    · exact .inl (by kernel_rfl)
    · exact .inr ⟨by kernel_rfl, by rfl⟩
  · intro L cd p hp
    simp only [List.mem_cons, List.not_mem_nil, or_false] at hp
    rcases hp with rfl | rfl | rfl <;> rfl
  · intro L
    show [L + 2, L + 1].Nodup ∧ ∀ c ∈ [L + 2, L + 1], L < c
    refine ⟨by simp, fun c hc => ?_⟩
    simp only [List.mem_cons, List.not_mem_nil, or_false] at hc
    rcases hc with rfl | rfl <;> exact Nat.lt_add_of_pos_right (by decide)
  · intro L p hp
    have hp' : p ∈ [(S "k", L + 2), (S "text", L + 1)] := hp
    simp only [List.mem_cons, List.not_mem_nil, or_false] at hp'
    rcases hp' with rfl | rfl <;> rfl
  intro C' cd Su R' G'
  dsimp only
  obtain ⟨vs, kv, hv⟩ := ki.to (KnTo.sub (D' := []) (σ := ⟨l, D, g⟩) Su)
  have hlen := paired_len hv
  change W C' _ (execs (_ :: _ :: _ :: _) _) _
  refine Execs_cons <| If_ <| Test_cmp <| Call_bi G' hln hlb <| Args_cons <| Name_local (by walk_at "rx m") <| Args_nil <| Len_L kv.old (by omega) fun u1 => Call_bi G' hln hlb <| Args_cons <| Name_cell (by rfl) (by walk_at "rx m") <| Args_nil <| Len_T (by omega) fun u2 => Ne_int ⟨_, rfl, ?_⟩
  refine ite_b (fun h1 => ?_) (fun h1 => ?_)
  · refine Execs_cons <| Return_ <| Const_bool ⟨[], List.nil_sublist _, ?_⟩
    rw [takesV_len (by intro e; rw [hlen, e] at h1; simp at h1)] at h
    exact h
  have hl : its.length = cs.length := by
    rw [hlen] at h1
    simp at h1
    omega
  refine Execs_nil <| Execs_cons <| For_ <| Call_ty G' hr hb <| Args_cons <| Call_bi G' hln hlb <| Args_cons <| Name_cell (by rfl) (by walk_at "rx m") <| Args_nil <| Len_T (by omega) fun u3 => Args_nil <| Range1 fun ra => ?_
  refine Iter_range (a := 0) (b := cs.length) (c := 1) (fun s H => H.obj (by walk_at "rx m")) ?_ fun I => ?_
  · exact range_small hz2
  have hsz : Builtin.Range.rangeSize 0 cs.length 1 = (cs.length : Int) := range_size _
  rw [hsz, ← hl]
  have := takes_loop (C := C') (g := g) (cd := cd) (r := ra) (I := I) (fa := fa) (tt := tt) (by rfl) (R'.less (Nat.zero_le _)) kv hz2 its 0 none none none (by omega) (by simpa using hv) hz
  rw [← hl] at this
  refine WLoop.mono this ?_
  rintro f σ' ⟨hf, hg⟩
  rcases hf with ⟨rfl, ht⟩ | ⟨rfl, ht⟩
  · refine Execs_cons <| Return_ <| Const_bool ⟨[], List.nil_sublist _, ?_⟩
    rw [List.drop_zero] at ht
    rw [ht] at h
    dsimp only
    rw [hg]
    exact h
  · refine ⟨[], List.nil_sublist _, ?_⟩
    rw [List.drop_zero] at ht
    rw [ht] at h
    rw [hg]
    exact h
end
end
section
open PySem.Calls PyProof.V PySem.Spec PySem.SeqAt
open StrLaws
theorem St.perm {C : Cx} {l : Loc} {D D' : Led} {g : Array GenState} {s : Shared} (H : St C ⟨l, D, g⟩ s) (p : D'.Perm D) : St C ⟨l, D', g⟩ s :=
  ⟨H.keep, fun hl => let ⟨a, b, c⟩ := H.loc hl; ⟨a, b, fun q hq => c q (p.mem_iff.mp hq)⟩, fun q hq => H.led q (p.mem_iff.mp hq), H.nd, (p.map _).nodup_iff.mpr H.ord, H.drawn, H.os, H.gens⟩
theorem W.perm {α : Type} {C : Cx} {l : Loc} {D D' : Led} {g : Array GenState} {m : Sem α} {Q : α → AS → Prop} (h : W C ⟨l, D', g⟩ m Q) (p : D'.Perm D) : W C ⟨l, D, g⟩ m Q := fun s E H => h s E (H.perm p)
def WWhile (C : Cx) (σ : AS) (test : Expr) (body orelse : List Stmt) (env : Env) (Q : Flow → AS → Prop) : Prop :=
  ∀ (s : Shared) (E : Value → Shared → Prop), St C σ s → codeAny (model C.prog C.w) C.A (.whileLoop test body orelse env) (fun r s' => match r with | .ok f => ∃ σ', Q f σ' ∧ St C σ' s' | .error e => E e s') s
section
variable {C : Cx} {σ : AS} {env : Env} {test : Expr} {body orelse : List Stmt} {Q : Flow → AS → Prop}
theorem WWhile.mono {Q' : Flow → AS → Prop} (h : WWhile C σ test body orelse env Q) (hq : ∀ f σ', Q f σ' → Q' f σ') : WWhile C σ test body orelse env Q' := fun s E H => codeAny_mono (h s E H) fun r s' hr => by
  cases r with
  | ok f => obtain ⟨σ', q, H'⟩ := hr; exact ⟨σ', hq _ _ q, H'⟩
  | error e => exact hr
theorem WWhile.drop {l : Loc} {D D' D'' : Led} {g : Array GenState} (h : WWhile C ⟨l, D', g⟩ test body orelse env Q) (hd : D''.Sublist D) (p : D'.Perm D'') : WWhile C ⟨l, D, g⟩ test body orelse env Q := fun s E H => h s E ((H.drop (σ' := ⟨l, D'', g⟩) rfl hd rfl).perm p)
theorem WWhile.step
    (h : W C σ (isTrue test env (eval test env)) fun b σ₁ => if b = true then W C σ₁ (execs body env) fun f σ₂ => (match f with
        | .next => WWhile C σ₂ test body orelse env Q
        | .cont => WWhile C σ₂ test body orelse env Q
        | .brk => Q .next σ₂
        | .ret v => Q (.ret v) σ₂)
      else W C σ₁ (execs orelse env) Q) : WWhile C σ test body orelse env Q := fun s E H => by
  refine codeAny_of_tree ?_
  show wpAny _ C.A ((whileTurn test body orelse env).onRaise (fun x => do noteFrame x env; theTreesLotGoes x)) _ _ s
  refine wpAny_noted ?_
  simp only [whileTurn]
  refine wpAny_bind (wpAny_mono (h s _ H) (fun b s₁ h₁ => ?_) fun _ _ x => x)
  obtain ⟨σ₁, q, H₁⟩ := h₁
  cases b with
  | false =>
    simp only [Bool.false_eq_true, if_false] at q ⊢
    exact wpAny_bind (wpAny_mono (q _ _ H₁) (fun f s₂ h₂ => wpAny_pure h₂) fun _ _ x => x)
  | true =>
    simp only [if_true] at q ⊢
    refine wpAny_bind (wpAny_mono (q _ _ H₁) (fun f s₂ h₂ => ?_) fun _ _ x => x)
    obtain ⟨σ₂, q₂, H₂⟩ := h₂
    cases f with
    | next => exact wpAny_pure ⟨rfl, q₂ _ _ H₂⟩
    | cont => exact wpAny_pure ⟨rfl, q₂ _ _ H₂⟩
    | brk => exact wpAny_pure ⟨σ₂, q₂, H₂⟩
    | ret v => exact wpAny_pure ⟨σ₂, q₂, H₂⟩
theorem While_ {pos : Pos} (h : WWhile C σ test body orelse env Q) : W C σ (exec (.While test body orelse pos) env) Q := fun s E H =>
  wpAny_While (codeAny_mono (h s _ H) fun r s' x => x)
end
theorem T_beq (a b : List Nat) : (T a == T b) = (a == b) := by
  by_cases h : a = b
  · subst h; simp
  · have h' : T a ≠ T b := fun e => h (by
      have := congrArg (fun x : Str => x.cps.toList) e
      simpa using this)
    rw [beq_eq_false_iff_ne.mpr h', beq_eq_false_iff_ne.mpr h]
theorem slice_clip (x : Str) (a b : Nat) : Txt.slice x (some (a : Int)) (some (b : Int)) = Txt.slice x (some (a : Int)) (some ((min b x.length : Nat) : Int)) := by
  unfold Txt.slice
  have : Builtin.Str.strSliceIndices (some (a : Int)) (some (b : Int)) 1 x.length = Builtin.Str.strSliceIndices (some (a : Int)) (some ((min b x.length : Nat) : Int)) 1 x.length := by
    have h1 : ¬ ((b : Int) < 0) := by omega
    have h2 : ¬ (((min b x.length : Nat) : Int) < 0) := by omega
    have e : max (0 : Int) (min (b : Int) (x.length : Int)) = max 0 (min ((min b x.length : Nat) : Int) (x.length : Int)) := by omega
    simp only [Builtin.Str.strSliceIndices, h1, h2, if_false, show ((1 : Int) > 0) = True from by simp, if_true, e]
  rw [this]
theorem len_T (cs : List Nat) : (T cs).length = cs.length := by simp [Str.length]
theorem slice_T {cs : List Nat} {a b : Nat} (hab : a ≤ b) (ha : a ≤ cs.length) : Txt.slice (T cs) (some (a : Int)) (some (b : Int)) = T ((cs.drop a).take (b - a)) := by
  rw [slice_clip, len_T]
  have h := sliceText_nat (T cs) (a := a) (b := min b cs.length) (by omega) (by rw [len_T]; omega)
  refine Eq.trans h ?_
  show T _ = T _
  have e : (T cs).cps.toList = cs := by simp
  rw [e]
  by_cases hb : b ≤ cs.length
  · rw [Nat.min_eq_left hb]
  · rw [Nat.min_eq_right (by omega), List.take_of_length_le (by simp), List.take_of_length_le (by simp; omega)]
theorem slice_T_none {cs : List Nat} {a : Nat} (ha : a ≤ cs.length) : Txt.slice (T cs) (some (a : Int)) none = T (cs.drop a) := by
  have : Txt.slice (T cs) (some (a : Int)) none = Txt.slice (T cs) (some (a : Int)) (some (cs.length : Int)) := by
    unfold Txt.slice
    rw [sliceIdx_none_hi, len_T]
  rw [this, slice_T ha ha, List.take_of_length_le (by simp)]
theorem slice_T_neg {cs : List Nat} {a : Nat} (ha : a + 1 ≤ cs.length) : Txt.slice (T cs) (some (a : Int)) (some (-1)) = T ((cs.drop a).take (cs.length - 1 - a)) := by
  have : Txt.slice (T cs) (some (a : Int)) (some (-1)) = Txt.slice (T cs) (some (a : Int)) (some ((cs.length - 1 : Nat) : Int)) := by
    unfold Txt.slice
    rw [sliceIdx_neg_hi _ _ (by omega) (by rw [len_T]; omega), len_T]
    rw [show (-1 + (cs.length : Int)) = ((cs.length - 1 : Nat) : Int) from by omega]
  rw [this, slice_T (by omega) (by omega)]
section
variable {C : Cx} {l : Loc} {D D' : Led} {g : Array GenState} {env : Env}
theorem Part_none {Q : Value → AS → Prop} (h : Q .none ⟨l, D, g⟩) : W C ⟨l, D, g⟩ (evalPart none env) Q := fun s E H => wpAny_pure ⟨_, h, H⟩
theorem Part_some {e : Expr} {Q : Value → AS → Prop} (h : W C ⟨l, D, g⟩ (eval e env) Q) : W C ⟨l, D, g⟩ (evalPart (some e) env) Q := h
theorem Slice_ {lower upper step : Option Expr} {p : Pos} {Q : Value → AS → Prop}
    (h : W C ⟨l, D, g⟩ (evalPart lower env) fun lv σ₁ => W C σ₁ (evalPart upper env) fun uv σ₂ => W C σ₂ (evalPart step env) fun sv σ₃ => ∀ a, Q (.ref a) ⟨σ₃.l, (a, sliceP lv uv sv) :: σ₃.D, σ₃.g⟩) :
    W C ⟨l, D, g⟩ (eval (.Slice lower upper step p) env) Q := fun s E H =>
  wpAny_Slice (wpAny_mono (h s E H) (fun lv s₁ ⟨σ₁, q₁, H₁⟩ => wpAny_mono (q₁ s₁ E H₁) (fun uv s₂ ⟨σ₂, q₂, H₂⟩ => wpAny_mono (q₂ s₂ E H₂) (fun sv s₃ ⟨σ₃, q₃, H₃⟩ => ⟨_, q₃ _, H₃.push _ ⟨rfl, rfl⟩⟩) fun _ _ x => x) fun _ _ x => x) fun _ _ x => x)
theorem SliceT {value slice : Expr} {x : Str} {t : Tok} {a : Addr} {i j : Option (Int × Tok)} {Q : Value → AS → Prop} (hin : (a, sliceP (partValue i) (partValue j) .none) ∈ D) (hsz : x.length ≤ 1000000) (h : ∀ t', Q (.str (Txt.slice x (i.map (·.1)) (j.map (·.1))) t') ⟨l, D, g⟩)
    (hs : subscripted slice false (.str x t) (.ref a) = operate [.ref a, .str x t] (getItem (.str x t) (.ref a)) := by with_unfolding_all rfl) (ht : ∀ r, letTemporaryGo value (.str x t) r = pure () := by intro _; with_unfolding_all rfl) :
    W C ⟨l, D, g⟩ (subscriptTail value slice (.str x t) (.ref a)) Q := fun s E H => by
  obtain ⟨o, ho, hc, hd⟩ := H.obj hin
  refine tail_of_ItemOn ⟨"str", _, F.slot_str_getitem.lookup, typeIs_str _ _ _, wpAny_getItem_str_slice (l := i) (u := j) (st := none) ⟨o, ho, hc, hd⟩ rfl
    (post_val_or_str ⟨Nat.le_trans (Txt.slice_le x _ _) (Nat.le_trans hsz (by show _ ≤ 2 ^ 24; omega)), fun t' k => ⟨_, h t', H.toks k⟩⟩)⟩ hs ht
/-- text[a:b] -/
theorem Slice_nat {value slice : Expr} {cs : List Nat} {t ti tj : Tok} {a : Addr} {i j : Nat} {Q : Value → AS → Prop} (hin : (a, sliceP (.int i ti) (.int j tj) .none) ∈ D) (hij : i ≤ j) (hi : i ≤ cs.length) (hsz : cs.length ≤ 1000000) (h : ∀ t', Q (.str (T ((cs.drop i).take (j - i))) t') ⟨l, D, g⟩)
    (hs : subscripted slice false (.str (T cs) t) (.ref a) = operate [.ref a, .str (T cs) t] (getItem (.str (T cs) t) (.ref a)) := by with_unfolding_all rfl) (ht : ∀ r, letTemporaryGo value (.str (T cs) t) r = pure () := by intro _; with_unfolding_all rfl) :
    W C ⟨l, D, g⟩ (subscriptTail value slice (.str (T cs) t) (.ref a)) Q :=
  SliceT (i := some ((i : Int), ti)) (j := some ((j : Int), tj)) hin (by rw [len_T]; exact hsz) (fun t' => by
    show Q (.str (Txt.slice (T cs) (some (i : Int)) (some (j : Int))) t') _
    rw [slice_T hij hi]; exact h t') hs ht
theorem Slice_from {value slice : Expr} {cs : List Nat} {t ti : Tok} {a : Addr} {i : Nat} {Q : Value → AS → Prop} (hin : (a, sliceP (.int i ti) .none .none) ∈ D) (hi : i ≤ cs.length) (hsz : cs.length ≤ 1000000) (h : ∀ t', Q (.str (T (cs.drop i)) t') ⟨l, D, g⟩)
    (hs : subscripted slice false (.str (T cs) t) (.ref a) = operate [.ref a, .str (T cs) t] (getItem (.str (T cs) t) (.ref a)) := by with_unfolding_all rfl) (ht : ∀ r, letTemporaryGo value (.str (T cs) t) r = pure () := by intro _; with_unfolding_all rfl) :
    W C ⟨l, D, g⟩ (subscriptTail value slice (.str (T cs) t) (.ref a)) Q :=
  SliceT (i := some ((i : Int), ti)) (j := none) hin (by rw [len_T]; exact hsz) (fun t' => by
    show Q (.str (Txt.slice (T cs) (some (i : Int)) none) t') _
    rw [slice_T_none hi]; exact h t') hs ht
theorem Slice_last {value slice : Expr} {cs : List Nat} {t ti tj : Tok} {a : Addr} {i : Nat} {Q : Value → AS → Prop} (hin : (a, sliceP (.int i ti) (.int (-1) tj) .none) ∈ D) (hi : i + 1 ≤ cs.length) (hsz : cs.length ≤ 1000000) (h : ∀ t', Q (.str (T ((cs.drop i).take (cs.length - 1 - i))) t') ⟨l, D, g⟩)
    (hs : subscripted slice false (.str (T cs) t) (.ref a) = operate [.ref a, .str (T cs) t] (getItem (.str (T cs) t) (.ref a)) := by with_unfolding_all rfl) (ht : ∀ r, letTemporaryGo value (.str (T cs) t) r = pure () := by intro _; with_unfolding_all rfl) :
    W C ⟨l, D, g⟩ (subscriptTail value slice (.str (T cs) t) (.ref a)) Q :=
  SliceT (i := some ((i : Int), ti)) (j := some (-1, tj)) hin (by rw [len_T]; exact hsz) (fun t' => by
    show Q (.str (Txt.slice (T cs) (some (i : Int)) (some (-1))) t') _
    rw [slice_T_neg hi]; exact h t') hs ht
theorem Item_last {value slice : Expr} {cs : List Nat} {t u : Tok} {c : Nat} {Q : Value → AS → Prop} (hx : cs.getLast? = some c) (hk : cs.length < 1000000) (h : ∀ t, Q (.str (strOf c) t) ⟨l, D, g⟩)
    (hs : subscripted slice false (.str (T cs) t) (.int (-1) u) = operate [.str (T cs) t, .int (-1) u] (getItem (.str (T cs) t) (.int (-1) u)) := by with_unfolding_all rfl)
    (ht : ∀ r, letTemporaryGo value (.str (T cs) t) r = pure () := by intro _; with_unfolding_all rfl) : W C ⟨l, D, g⟩ (subscriptTail value slice (.str (T cs) t) (.int (-1) u)) Q := fun s E H => by
  have hne : cs ≠ [] := by rintro rfl; simp at hx
  have hp : 0 < cs.length := List.length_pos_iff.mpr hne
  have e : Txt.item (T cs) (-1) = strOf c := by
    unfold Txt.item Txt.charAt
    rw [at_neg (n := c) (by omega) (by rw [len_T]; omega) ?_]
    · rfl
    · rw [len_T, show (-1 + (cs.length : Int)).toNat = cs.length - 1 from by omega]
      simpa [List.getLast?_eq_getElem?] using hx
  refine item_str (by unfold fitsSsize; simp) (by rw [len_T]; omega) (by rw [len_T]; omega) (fun _ => ?_) hs ht
  rw [e]
  exact ⟨_, h _, H.toks _⟩
theorem Load_local {x : Str} {v : Value} {Q : Value → AS → Prop} (hin : (x, some v) ∈ l) (h : Q v ⟨l, D, g⟩)
    (hL : env.locals = C.L := by rfl) (hk : env.scope.kind = .function := by rfl) (hl : env.kindOf x = some .local := by kernel_rfl) : W C ⟨l, D, g⟩ (loadName env x) Q := fun s E H => by
  obtain ⟨⟨m, hn, hm⟩, _⟩ := H.loc (List.ne_nil_of_mem hin)
  exact wpAny_loadName_local hk hl (hL ▸ hn) (hm _ hin) ⟨_, h, H⟩
theorem Aug_Name {x : Str} {pos' pos : Pos} {op : Operator} {value : Expr} {Q : Flow → AS → Prop}
    (h : W C ⟨l, D, g⟩ (loadName env x) fun old σ₁ => W C σ₁ (eval value env) fun v σ₂ => W C σ₂ (inplaceOp op old v) fun r σ₃ => W C σ₃ (storeName env x r) fun _ σ₄ => Q .next σ₄) :
    W C ⟨l, D, g⟩ (exec (.AugAssign (.Name x pos') op value pos) env) Q := fun s E H =>
  wpAny_AugAssign_Name (wpAny_mono (h s E H) (fun old s₁ ⟨σ₁, q₁, H₁⟩ => wpAny_mono (q₁ s₁ E H₁) (fun v s₂ ⟨σ₂, q₂, H₂⟩ => wpAny_mono (q₂ s₂ E H₂) (fun r s₃ ⟨σ₃, q₃, H₃⟩ => wpAny_mono (q₃ s₃ E H₃) (fun _ s₄ h₄ => h₄) fun _ _ x => x) fun _ _ x => x) fun _ _ x => x) fun _ _ x => x)
theorem IAdd_int {a b : Int} {t u : Tok} {Q : Value → AS → Prop} (h : ∀ t, Q (.int (a + b) t) ⟨l, D, g⟩) : W C ⟨l, D, g⟩ (inplaceOp .Add (.int a t) (.int b u)) Q := fun s _ H => PyProof.Rows.iadd_int ⟨_, h _, H.toks _⟩
theorem Neg_ {x : Expr} {pos : Pos} {Q : Value → AS → Prop} (h : W C ⟨l, D, g⟩ (eval x env) fun v σ₁ => W C σ₁ (unaryOp .USub v) Q) : W C ⟨l, D, g⟩ (eval (.UnaryOp .USub x pos) env) Q := fun s E H =>
  UnaryOp_ (wpAny_mono (h s E H) (fun v s₁ ⟨σ₁, q₁, H₁⟩ => q₁ s₁ E H₁) fun _ _ x => x)
theorem Neg_int {a : Int} {t : Tok} {Q : Value → AS → Prop} (h : ∀ t, Q (.int (-a) t) ⟨l, D, g⟩) : W C ⟨l, D, g⟩ (unaryOp .USub (.int a t)) Q := fun s _ H => PyProof.Rows.neg_int ⟨_, h _, H.toks _⟩
theorem Test_plain {e : Expr} {whole : Sem Value} {Q : Bool → AS → Prop} (h : W C ⟨l, D, g⟩ whole fun v σ₁ => W C σ₁ (truthy v) Q) (he : isTrue e env whole = (do let v ← whole; standAt e.pos; holding [v] (truthy v)) := by rfl) : W C ⟨l, D, g⟩ (isTrue e env whole) Q := fun s E H =>
  isTrue_plain (wpAny_mono (h s E H) (fun v s₁ ⟨σ₁, q₁, H₁⟩ => q₁ s₁ E H₁) fun _ _ x => x) he
theorem Truthy_bool {b : Bool} {Q : Bool → AS → Prop} (h : Q b ⟨l, D, g⟩) : W C ⟨l, D, g⟩ (truthy (.bool b)) Q := fun s E H => wpAny_truthy_bool ⟨_, h, H⟩
theorem Truthy_T {cs : List Nat} {t : Tok} {Q : Bool → AS → Prop} (hz : cs.length ≤ 1000000) (h : Q (!cs.isEmpty) ⟨l, D, g⟩) : W C ⟨l, D, g⟩ (truthy (.str (T cs) t)) Q := fun s E H => by
  refine PySem.P.truthy_str (by rw [len_T]; omega) ?_
  have e : (((T cs).length : Int) != 0) = !cs.isEmpty := by rw [len_T]; cases cs <;> simp <;> omega
  rw [e]
  exact ⟨_, h, H.toks _⟩
theorem Eq_T {a b : List Nat} {t u : Tok} {y : Str} {Q : Value → AS → Prop} (h : Q (.bool (a == b)) ⟨l, D, g⟩) (hy : y = T b := by kernel_rfl) : W C ⟨l, D, g⟩ (compareOp .Eq (.str (T a) t) (.str y u)) Q := fun s E H => by
  subst hy
  refine PyProof.Rows.eq_str ?_
  rw [T_beq]
  exact ⟨_, h, H⟩
theorem Eq_ch {a b : Nat} {t u : Tok} {y : Str} {Q : Value → AS → Prop} (h : Q (.bool (a == b)) ⟨l, D, g⟩) (hy : y = strOf b := by kernel_rfl) : W C ⟨l, D, g⟩ (compareOp .Eq (.str (strOf a) t) (.str y u)) Q := fun s E H => by
  subst hy
  refine PyProof.Rows.eq_str ?_
  have e : (strOf a == strOf b) = (a == b) := (T_beq [a] [b]).trans (by simp)
  rw [e]
  exact ⟨_, h, H⟩
end
end
section
open PySem.Calls PyProof.V PySem.Spec PySem.SeqAt
open StrLaws
inductive Esc : List Nat → Nat → Prop
  | plain (f : Nat) : f ≠ 92 → Esc [f] f
  | esc (f : Nat) : Esc [92, f] f
inductive SpansRel : List Nat → List (Nat × Nat) → Prop
  | nil : SpansRel [] []
  | rng {e f y r sp} : Esc e f → f < 128 → SpansRel r sp → SpansRel (e ++ 45 :: y :: r) ((f, y) :: sp)
  | one {e f r sp} : Esc e f → f < 128 → (∀ y r', r ≠ 45 :: y :: r') → SpansRel r sp → SpansRel (e ++ r) ((f, f) :: sp)
inductive PartRel : List Nat → Bool × List (Nat × Nat) → Prop
  | dot : PartRel [46] (true, [])
  | short {cs c} : cs.length < 3 → cs ≠ [46] → cs.getLast? = some c → c < 128 → PartRel cs (false, [(c, c)])
  | plain {f b sp} : f ≠ 94 → SpansRel (f :: b) sp → PartRel (91 :: f :: b ++ [93]) (false, sp)
  | barred {b sp} : SpansRel b sp → PartRel (91 :: 94 :: b ++ [93]) (true, sp)
def SpanM (D : Led) (v : Value) (p : Nat × Nat) : Prop := ∃ t t1 t2, v = .ref t ∧ (t, tupP [.str (strOf p.1) t1, .str (strOf p.2) t2]) ∈ D ∧ p.1 < 128
theorem SpanM.cons {D : Led} {v p q} (x : SpanM D v p) : SpanM (q :: D) v p := let ⟨t, t1, t2, e, k, hb⟩ := x; ⟨t, t1, t2, e, .tail _ k, hb⟩
theorem SpanM.toV {C : Cx} {D D' : Led} {v p} (x : SpanM D v p) (h : ∀ q ∈ D, q ∈ D') : SpanV C D' v p := let ⟨t, t1, t2, e, k, hb⟩ := x; ⟨t, t1, t2, e, .inr (h _ k), hb⟩
def ItemM (D : Led) (v : Value) (it : Bool × List (Nat × Nat)) : Prop := ∃ t sp vs, v = .ref t ∧ (t, tupP [.bool it.1, .ref sp]) ∈ D ∧ (sp, listP vs) ∈ D ∧ Paired (SpanM D) vs it.2
theorem SpanM.to {D D' : Led} {v p} (x : SpanM D v p) (h : ∀ q ∈ D, q ∈ D') : SpanM D' v p := let ⟨t, t1, t2, e, k, hb⟩ := x; ⟨t, t1, t2, e, h _ k, hb⟩
theorem ItemM.to {D D' : Led} {v p} (x : ItemM D v p) (h : ∀ q ∈ D, q ∈ D') : ItemM D' v p := let ⟨t, sp, vs, e, k, k2, f⟩ := x; ⟨t, sp, vs, e, h _ k, h _ k2, paired_imp (fun _ _ r => r.to h) f⟩
theorem ItemM.toV {C : Cx} {D D' : Led} {v p} (x : ItemM D v p) (h : ∀ q ∈ D, Kn C D' q.1 q.2) : ItemV C D' v p :=
  let ⟨t, sp, vs, e, k, k2, f⟩ := x; ⟨t, sp, vs, e, h _ k, h _ k2, paired_imp (fun _ _ ⟨t, t1, t2, e, k, hb⟩ => ⟨t, t1, t2, e, h _ k, hb⟩) f⟩
def sLoop : Stmt := (bodyAt 34).getD 6 noStmt
abbrev sLoc (part body : Value) (barred : Bool) (k : Int) (tk : Tok) (sp : Addr) (f : Option Value) : Loc :=
  [(S "part", some part), (S "body", some body), (S "barred", some (.bool barred)), (S "k", some (.int k tk)), (S "spans", some (.ref sp)), (S "first", f)]
def sTail : List Stmt := (bodyOf sLoop).drop 3
theorem Item_strZ {C : Cx} {l : Loc} {D : Led} {g : Array GenState} {value slice : Expr} {cs : List Nat} {t u : Tok} {i : Int} {k c : Nat} {Q : Value → AS → Prop} (hi : i = (k : Int)) (hx : cs[k]? = some c) (hk : k < 1000000) (h : ∀ t, Q (.str (strOf c) t) ⟨l, D, g⟩)
    (hs : subscripted slice false (.str (T cs) t) (.int i u) = operate [.str (T cs) t, .int i u] (getItem (.str (T cs) t) (.int i u)) := by with_unfolding_all rfl)
    (ht : ∀ r, letTemporaryGo value (.str (T cs) t) r = pure () := by intro _; with_unfolding_all rfl) : W C ⟨l, D, g⟩ (subscriptTail value slice (.str (T cs) t) (.int i u)) Q := by
  subst hi
  exact Item_str hx hk h hs ht
section
variable {C : Cx} {g : Array GenState} {mg mb : Str → Option Value} {cd : Value} {sp fa : Addr} {cs : List Nat} {part : Value} {tb tk : Tok} {barred : Bool}
set_option maxHeartbeats 1000000 in
theorem spans_tail (G : Gl C.h₀ mg mb) (hln : mg (S "len") = none) (hlb : mb (S "len") = some (.builtin "len")) (hcs : cs.length ≤ 1000) {k f : Nat} {tf : Tok} {r : List Nat} (hk : cs.drop k = r) (hkl : k ≤ cs.length) {vs : List Value} {K : Led} (hvs : vs.length ≤ k) {Q : Flow → AS → Prop}
    (h1 : ∀ y r', r = 45 :: y :: r' → ∀ t tk tf ty, Q .next ⟨sLoc part (.str (T cs) tb) barred ((k + 2 : Nat) : Int) tk sp (some (.str (strOf f) tf)), [(sp, listP (vs ++ [.ref t])), (t, tupP [.str (strOf f) tf, .str (strOf y) ty])] ++ K, g⟩)
    (h2 : (∀ y r', r ≠ 45 :: y :: r') → ∀ t tk tf, Q .next ⟨sLoc part (.str (T cs) tb) barred (k : Int) tk sp (some (.str (strOf f) tf)), [(sp, listP (vs ++ [.ref t])), (t, tupP [.str (strOf f) tf, .str (strOf f) tf])] ++ K, g⟩) :
    W C ⟨sLoc part (.str (T cs) tb) barred (k : Int) tk sp (some (.str (strOf f) tf)), (sp, listP vs) :: K, g⟩ (execs sTail (envOf (S "_law_spans") (scopeAt 34) C.L fa cd)) Q := by
  change W C _ (execs (_ :: _) _) _
  refine Execs_cons <| If_ <| And_cons <| Test_cmp <| Sub_ <| Name_local (by walk_at "rx m") <| Slice_ <| Part_some <| Name_local (by walk_at "rx m") <| Part_some <| BinOp_ <| Name_local (by walk_at "rx m") <| Const_int fun u1 => Add_int fun u2 => Part_none fun sl => ?_
  refine Slice_nat (i := k) (j := k + 1) (by walk_at "rx m") (by omega) hkl (by omega) fun u3 => Const_str fun u4 => Eq_T (b := [45]) ⟨_, rfl, ?_⟩
  rw [show k + 1 - k = 1 from by omega, hk]
  have no : ∀ {D₁ : Led} {Q' : Flow → AS → Prop}, ((sp, listP vs) :: K).Sublist D₁ → (∀ t, Q' .next ⟨sLoc part (.str (T cs) tb) barred (k : Int) tk sp (some (.str (strOf f) tf)), [(sp, listP (vs ++ [.ref t])), (t, tupP [.str (strOf f) tf, .str (strOf f) tf])] ++ K, g⟩) →
      W C ⟨sLoc part (.str (T cs) tb) barred (k : Int) tk sp (some (.str (strOf f) tf)), D₁, g⟩ (execs (match sTail.getD 0 noStmt with | .If _ _ o _ => o | _ => []) (envOf (S "_law_spans") (scopeAt 34) C.L fa cd)) Q' := fun e hq => by
    refine W.weak (σ' := ⟨_, (sp, listP vs) :: K, g⟩) ?_ rfl e rfl
    change W C _ (execs (_ :: _) _) _
    refine Execs_cons <| Expr_stmt <| Append_ <| Name_local (by walk_at "rx m") ⟨sp, rfl, ⟨_, by walk_at "rx m"⟩, Tuple_disp <| Args_cons <| Name_local (by walk_at "rx m") <| Args_cons <| Name_local (by walk_at "rx m") <| Args_nil ⟨show (2 : Nat) ≤ sizeLine from by decide, fun t => ⟨vs, _, by omega, by walk_at "rx ud", (fun b e => nomatch e), ?_⟩⟩⟩
    exact W.perm (Execs_nil (hq t)) (List.Perm.swap ..)
  refine ite_b (fun hb => ?_) (fun hb => ?_)
  · refine And_cons <| Test_cmp <| BinOp_ <| Name_local (by walk_at "rx m") <| Const_int fun u5 => Add_int fun u6 => Call_bi G hln hlb <| Args_cons <| Name_local (by walk_at "rx m") <| Args_nil <| Len_T (by omega) fun u7 => Lt_int ⟨_, rfl, ?_⟩
    have hb' : r.take 1 = [45] := by simpa using hb
    refine ite_b (fun hl => ?_) (fun hl => ?_)
    · refine And_nil (ite_t ?_)
      have hl' : k + 1 < cs.length := by
        have := of_decide_eq_true hl
        omega
      obtain ⟨y, r', hr⟩ : ∃ y r', r = 45 :: y :: r' := by
        have hrl : r.length = cs.length - k := by rw [← hk]; simp
        cases r with
        | nil => simp at hb'
        | cons x r =>
          cases r with
          | nil => simp at hrl; omega
          | cons y r' =>
            simp at hb'
            exact ⟨y, r', by rw [hb']⟩
      have hy : cs[k + 1]? = some y := by
        have := congrArg (·[1]?) (hk.trans hr)
        simpa using this
      refine W.weak (σ' := ⟨_, (sp, listP vs) :: K, g⟩) ?_ rfl (List.sublist_cons_self _ _) rfl
      refine Execs_cons <| Expr_stmt <| Append_ <| Name_local (by walk_at "rx m") ⟨sp, rfl, ⟨_, by walk_at "rx m"⟩, Tuple_disp <| Args_cons <| Name_local (by walk_at "rx m") <| Args_cons <| Sub_ <| Name_local (by walk_at "rx m") <| BinOp_ <| Name_local (by walk_at "rx m") <| Const_int fun u8 => Add_int fun u9 => Item_strZ (k := k + 1) (by omega) hy (by omega) fun ty => Args_nil ⟨show (2 : Nat) ≤ sizeLine from by decide, fun t => ⟨vs, _, by omega, by walk_at "rx ud", (fun b e => nomatch e), ?_⟩⟩⟩
      refine Execs_cons <| Aug_Name <| Load_local (by walk_at "rx m") <| Const_int fun u10 => IAdd_int fun u11 => Store_local (by walk_at "rx u") ?_
      refine W.perm (Execs_nil (Execs_nil ?_)) (List.Perm.swap ..)
      have := h1 y r' hr t u11 tf ty
      rw [show ((k + 2 : Nat) : Int) = (k : Int) + 2 from by omega] at this
      exact this
    · refine ite_f ?_
      refine no (List.sublist_cons_self _ _) fun t => Execs_nil (h2 ?_ t _ _)
      rintro y r' rfl
      have hrl : (45 :: y :: r').length = cs.length - k := by rw [← hk]; simp
      simp at hrl
      have := of_decide_eq_false hl
      omega
  · refine ite_f ?_
    refine no (List.sublist_cons_self _ _) fun t => Execs_nil (h2 ?_ t _ _)
    rintro y r' rfl
    simp at hb
end
theorem paired_snoc {α β : Type} {R : α → β → Prop} {a : α} {b : β} (hab : R a b) : ∀ {l : List α} {m : List β}, Paired R l m → Paired R (l ++ [a]) (m ++ [b])
  | _, _, .nil => .cons hab .nil
  | _, _, .cons h t => .cons h (paired_snoc hab t)
theorem drop_add {cs e r : List Nat} {k : Nat} (h : cs.drop k = e ++ r) : cs.drop (k + e.length) = r := by
  rw [← List.drop_drop, h]; simp
section
variable {C : Cx} {g : Array GenState} {mg mb : Str → Option Value} {cd : Value} {sp fa : Addr} {cs : List Nat} {part : Value} {tb : Tok} {barred : Bool}
set_option maxHeartbeats 1000000 in
theorem spans_front {target : Expr} {body orelse : List Stmt} {pos : Pos} (hs : sLoop = .While target body orelse pos) (hcs : cs.length ≤ 1000) {k f : Nat} {tk : Tok} {e r : List Nat} (he : Esc e f) (hk : cs.drop k = e ++ r) {D : Led} {o : Option Value} {Q : Flow → AS → Prop}
    (h : ∀ tk tf, W C ⟨sLoc part (.str (T cs) tb) barred ((k + e.length : Nat) : Int) tk sp (some (.str (strOf f) tf)), D, g⟩ (execs sTail (envOf (S "_law_spans") (scopeAt 34) C.L fa cd)) Q) :
    W C ⟨sLoc part (.str (T cs) tb) barred (k : Int) tk sp o, D, g⟩ (execs body (envOf (S "_law_spans") (scopeAt 34) C.L fa cd)) Q := by
  cases hs
  have hkl : k < cs.length := by
    have := congrArg List.length hk
    cases he <;> simp at this <;> omega
  cases he with
  | plain f hf =>
    have hx : cs[k]? = some f := by
      have := congrArg (·[0]?) hk
      simpa using this
    refine Execs_cons <| If_ <| Test_cmp <| Sub_ <| Name_local (by walk_at "rx m") <| Name_local (by walk_at "rx m") <| Item_str hx (by omega) fun u1 => Const_str fun u2 => Eq_ch (b := 92) ⟨_, rfl, ?_⟩
    refine ite_b (fun h1 => absurd (by simpa using h1) hf) (fun _ => ?_)
    refine Execs_nil <| Execs_cons <| Assign_Name <| Sub_ <| Name_local (by walk_at "rx m") <| Name_local (by walk_at "rx m") <| Item_str hx (by omega) fun u3 => Store_local (by walk_at "rx u") ?_
    refine Execs_cons <| Aug_Name <| Load_local (by walk_at "rx m") <| Const_int fun u4 => IAdd_int fun u5 => Store_local (by walk_at "rx u") ?_
    exact h u5 u3
  | esc f =>
    have hx : cs[k]? = some 92 := by
      have := congrArg (·[0]?) hk
      simpa using this
    have hx1 : cs[k + 1]? = some f := by
      have := congrArg (·[1]?) hk
      simpa using this
    refine Execs_cons <| If_ <| Test_cmp <| Sub_ <| Name_local (by walk_at "rx m") <| Name_local (by walk_at "rx m") <| Item_str hx (by omega) fun u1 => Const_str fun u2 => Eq_ch (b := 92) ⟨_, rfl, ?_⟩
    refine ite_b (fun _ => ?_) (fun h1 => by simp at h1)
    refine Execs_cons <| Aug_Name <| Load_local (by walk_at "rx m") <| Const_int fun u4 => IAdd_int fun u5 => Store_local (by walk_at "rx u") <| Execs_nil ?_
    refine Execs_cons <| Assign_Name <| Sub_ <| Name_local (by walk_at "rx m") <| Name_local (by walk_at "rx m") <| Item_strZ (k := k + 1) (by omega) hx1 (by omega) fun u3 => Store_local (by walk_at "rx u") ?_
    refine Execs_cons <| Aug_Name <| Load_local (by walk_at "rx m") <| Const_int fun u6 => IAdd_int fun u7 => Store_local (by walk_at "rx u") ?_
    have := h u7 u3
    rw [show ((k + [92, f].length : Nat) : Int) = (k : Int) + 1 + 1 from by simp; omega] at this
    exact this
set_option maxHeartbeats 1000000 in
theorem spans_loop {target : Expr} {body orelse : List Stmt} {pos : Pos} (hs : sLoop = .While target body orelse pos) (G : Gl C.h₀ mg mb) (hln : mg (S "len") = none) (hlb : mb (S "len") = some (.builtin "len")) (hcs : cs.length ≤ 1000) {rest : List Nat} {sps : List (Nat × Nat)} (hr : SpansRel rest sps) :
    ∀ (k : Nat) (tk : Tok) (o : Option Value) (vs : List Value) (done : List (Nat × Nat)) (K : Led), cs.drop k = rest → k ≤ cs.length → vs.length ≤ k → Paired (SpanM K) vs done →
      WWhile C ⟨sLoc part (.str (T cs) tb) barred (k : Int) tk sp o, (sp, listP vs) :: K, g⟩ target body orelse (envOf (S "_law_spans") (scopeAt 34) C.L fa cd)
        fun f σ' => f = .next ∧ ∃ k tk o vs' K', Paired (SpanM K') vs' (done ++ sps) ∧ σ' = ⟨sLoc part (.str (T cs) tb) barred k tk sp o, (sp, listP vs') :: K', g⟩ := by
  have hs' := hs
  cases hs'
  induction hr with
  | nil =>
    intro k tk o vs done K hd hk hz hp
    have hkl : cs.length ≤ k := by simpa using hd
    refine WWhile.step <| Test_cmp <| Name_local (by walk_at "rx m") <| Call_bi G hln hlb <| Args_cons <| Name_local (by walk_at "rx m") <| Args_nil <| Len_T (by omega) fun u1 => Lt_int ⟨_, rfl, ?_⟩
    refine ite_b (fun h1 => absurd (of_decide_eq_true h1) (by omega)) (fun _ => ?_)
    exact Execs_nil ⟨rfl, k, tk, o, vs, K, by simpa using hp, rfl⟩
  | @rng e f y r sps he hf hr ih =>
    intro k tk o vs done K hd hk hz hp
    have hd1 := drop_add hd
    have hkl : k < cs.length := by
      have := congrArg List.length hd
      cases he <;> simp at this <;> omega
    have hel : 1 ≤ e.length := by cases he <;> simp
    have hkl1 : k + e.length + 2 ≤ cs.length := by
      have := congrArg List.length hd
      simp at this; omega
    refine WWhile.step <| Test_cmp <| Name_local (by walk_at "rx m") <| Call_bi G hln hlb <| Args_cons <| Name_local (by walk_at "rx m") <| Args_nil <| Len_T (by omega) fun u1 => Lt_int ⟨_, rfl, ?_⟩
    refine ite_b (fun _ => ?_) (fun h1 => absurd (of_decide_eq_false h1) (by omega))
    refine spans_front hs hcs he hd fun tk1 tf => ?_
    refine spans_tail G hln hlb hcs hd1 (by omega) (by omega) (fun y' r' hyr t tk2 tf2 ty => ?_) (fun hno => absurd rfl (hno y r))
    cases hyr
    dsimp only
    have := ih (k + e.length + 2) tk2 (some (.str (strOf f) tf2)) (vs ++ [.ref t]) (done ++ [(f, y)]) ((t, tupP [.str (strOf f) tf2, .str (strOf y) ty]) :: K) (by rw [← List.drop_drop, hd1]; rfl) (by omega) (by simp; omega)
      (paired_snoc ⟨t, tf2, ty, rfl, List.Mem.head _, hf⟩ (paired_imp (fun _ _ x => x.cons) hp))
    rw [List.append_assoc] at this
    exact this
  | @one e f r sps he hf hno hr ih =>
    intro k tk o vs done K hd hk hz hp
    have hd1 := drop_add hd
    have hkl : k < cs.length := by
      have := congrArg List.length hd
      cases he <;> simp at this <;> omega
    have hel : 1 ≤ e.length := by cases he <;> simp
    have hkl1 : k + e.length ≤ cs.length := by
      have := congrArg List.length hd
      simp at this; omega
    refine WWhile.step <| Test_cmp <| Name_local (by walk_at "rx m") <| Call_bi G hln hlb <| Args_cons <| Name_local (by walk_at "rx m") <| Args_nil <| Len_T (by omega) fun u1 => Lt_int ⟨_, rfl, ?_⟩
    refine ite_b (fun _ => ?_) (fun h1 => absurd (of_decide_eq_false h1) (by omega))
    refine spans_front hs hcs he hd fun tk1 tf => ?_
    refine spans_tail G hln hlb hcs hd1 (by omega) (by omega) (fun y' r' hyr => absurd hyr (hno y' r')) (fun _ t tk2 tf2 => ?_)
    dsimp only
    have := ih (k + e.length) tk2 (some (.str (strOf f) tf2)) (vs ++ [.ref t]) (done ++ [(f, f)]) ((t, tupP [.str (strOf f) tf2, .str (strOf f) tf2]) :: K) hd1 (by omega) (by simp; omega)
      (paired_snoc ⟨t, tf2, tf2, rfl, List.Mem.head _, hf⟩ (paired_imp (fun _ _ x => x.cons) hp))
    rw [List.append_assoc] at this
    exact this
end
section
variable {C : Cx} {l : Loc} {D : Led} {g : Array GenState} {mg mb : Str → Option Value} {fa : Addr} {cs : List Nat} {t : Tok} {it : Bool × List (Nat × Nat)} {k : Nat} {Q : Value → AS → Prop}
abbrev sLoc0 (part : Value) (a b c d e : Option Value) : Loc := [(S "part", some part), (S "body", a), (S "barred", b), (S "k", c), (S "spans", d), (S "first", e)]
set_option maxHeartbeats 1000000 in
theorem spans_call (G : Gl C.h₀ mg mb) (F : Def C.h₀ mg 34 (S "_law_spans") fa) (hln : mg (S "len") = none) (hlb : mb (S "len") = some (.builtin "len")) (R : Room C.A (k + 1)) (hcs : cs.length ≤ 1000) (pr : PartRel cs it)
    (h : ∀ v D', ItemM D' v it → Q v ⟨l, D' ++ D, g⟩) : W C ⟨l, D, g⟩ (call (.ref fa) [.str (T cs) t]) Q := by
  refine Call_plain (l' := sLoc0 (.str (T cs) t) none none none none none) (binds := [(S "part", .str (T cs) t)]) G F R (fun _ _ _ => by rfl) (locs (by kernel_rfl)) ?_ (by simp only [List.map_cons, List.map_nil]; decide +kernel) ?_
  · intro p hp
    simp only [List.mem_cons, List.not_mem_nil, or_false] at hp
    rcases hp with rfl | rfl | rfl | rfl | rfl | rfl <;> kernel_rfl
  intro C' cd Su R' G'
  dsimp only
  change W C' _ (execs (_ :: _ :: _ :: _ :: _ :: _ :: _ :: _ :: _) _) _
  refine Execs_cons <| If_ <| Test_cmp <| Name_local (by walk_at "rx m") <| Const_str fun u1 => Eq_T (b := [46]) ⟨_, rfl, ?_⟩
  by_cases hdot : cs = [46]
  · subst hdot
    cases pr with
    | dot =>
      refine ite_t ?_
      refine Execs_cons <| Return_ <| Tuple_disp <| Args_cons <| Const_bool <| Args_cons <| List_disp <| Args_nil ⟨show (0 : Nat) ≤ sizeLine from by decide, fun a => Args_nil ⟨show (2 : Nat) ≤ sizeLine from by decide, fun b => ?_⟩⟩
      exact ⟨_, List.Sublist.refl _, h _ _ ⟨b, a, [], rfl, (by walk_at "rx m"), (by walk_at "rx m"), .nil⟩⟩
    | short _ h2 => exact absurd rfl h2
  have e1 : (cs == [46]) = false := beq_eq_false_iff_ne.mpr hdot
  rw [e1]
  refine ite_f <| Execs_nil <| Execs_cons <| If_ <| Test_cmp <| Call_bi G' hln hlb <| Args_cons <| Name_local (by walk_at "rx m") <| Args_nil <| Len_T (by omega) fun u2 => Const_int fun u3 => Lt_int ⟨_, rfl, ?_⟩
  have fin : ∀ (c : Nat) (b : List Nat) (sp : List (Nat × Nat)) (bar : Bool), cs = 91 :: c :: b ++ [93] → bar = (c == 94) → SpansRel ((c :: b).drop (if bar = true then 1 else 0)) sp → it = (bar, sp) →
      W C' ⟨sLoc0 (.str (T cs) t) none none none none none, [], g⟩ (execs ((bodyAt 34).drop 2) (envOf (S "_law_spans") (scopeAt 34) C'.L fa cd)) fun f σ' => ∃ D', D'.Sublist σ'.D ∧ Q (retVal f) ⟨l, D' ++ D, σ'.g⟩ := by
    intro c b sp bar hcs' hbar hsp hit
    have hlen : cs.length = b.length + 3 := by rw [hcs']; simp
    change W C' _ (execs (_ :: _ :: _ :: _ :: _ :: _ :: _) _) _
    refine Execs_cons <| Assign_Name <| Sub_ <| Name_local (by walk_at "rx m") <| Slice_ <| Part_some <| Const_int fun u4 => Part_some <| Neg_ <| Const_int fun u5 => Neg_int fun u6 => Part_none fun sl => Slice_last (i := 1) (by walk_at "rx m") (by omega) (by omega) fun tb => ?_
    have hb : (cs.drop 1).take (cs.length - 1 - 1) = c :: b := by
      rw [hlen, hcs', show b.length + 3 - 1 - 1 = (c :: b).length from by simp]
      show ((c :: b) ++ [93]).take (c :: b).length = c :: b
      rw [List.take_left']
      rfl
    rw [hb]
    refine Store_local (by walk_at "rx u") ?_
    refine Execs_cons <| Assign_Name <| Cmp_ <| Sub_ <| Name_local (by walk_at "rx m") <| Const_int fun u7 => Item_strZ (k := 0) (c := c) rfl rfl (by omega) fun u8 => Const_str fun u9 => Eq_ch (b := 94) <| Store_local (by walk_at "rx u") ?_
    rw [← hbar]
    have next : ∀ (kk : Nat) (tk : Tok), kk = (if bar = true then 1 else 0) → W C' ⟨sLoc0 (.str (T cs) t) (some (.str (T (c :: b)) tb)) (some (.bool bar)) (some (.int kk tk)) none none, [(sl, sliceP (.int 1 u4) (.int (-1) u6) .none)], g⟩ (execs ((bodyAt 34).drop 5) (envOf (S "_law_spans") (scopeAt 34) C'.L fa cd)) fun f σ' => ∃ D', D'.Sublist σ'.D ∧ Q (retVal f) ⟨l, D' ++ D, σ'.g⟩ := by
      intro kk tk hkk
      have hkl : kk ≤ (c :: b).length := by
        rw [hkk]; split <;> simp
      change W C' _ (execs (_ :: _ :: _ :: _) _) _
      refine W.weak (σ' := ⟨_, [], g⟩) ?_ rfl (List.nil_sublist _) rfl
      refine Execs_cons <| Assign_Name <| List_disp <| Args_nil ⟨show (0 : Nat) ≤ sizeLine from by decide, fun spa => Store_local (by walk_at "rx u") ?_⟩
      refine Execs_cons <| While_ ?_
      have := spans_loop (C := C') (g := g) (cd := cd) (sp := spa) (fa := fa) (cs := c :: b) (part := .str (T cs) t) (tb := tb) (barred := bar) (by rfl) G' hln hlb (by simp; omega) (rest := (c :: b).drop kk) (sps := sp) (by rw [hkk]; exact hsp) kk tk none [] [] [] rfl hkl (Nat.zero_le _) .nil
      refine WWhile.mono this ?_
      rintro f σ' ⟨rfl, k', tk', o', vs', K', hp, rfl⟩
      refine Execs_cons <| Return_ <| Tuple_disp <| Args_cons <| Name_local (by walk_at "rx m") <| Args_cons <| Name_local (by walk_at "rx m") <| Args_nil ⟨show (2 : Nat) ≤ sizeLine from by decide, fun res => ?_⟩
      refine ⟨_, List.Sublist.refl _, h _ _ ⟨res, spa, vs', rfl, ?_, ?_, ?_⟩⟩
      · rw [hit]; exact (List.Mem.head _)
      · exact (List.Mem.tail _ (List.Mem.head _))
      · rw [hit]
        exact paired_imp (fun _ _ x => x.to fun q hq => List.Mem.tail _ (List.Mem.tail _ hq)) hp
    refine Execs_cons <| Assign_Name <| IfExp_ <| Test_plain <| Name_local (by walk_at "rx m") <| Truthy_bool ?_
    refine ite_b (fun hb1 => ?_) (fun hb1 => ?_)
    · exact Const_int fun u10 => Store_local (by walk_at "rx u") (next 1 u10 (by rw [hb1]; rfl))
    · exact Const_int fun u10 => Store_local (by walk_at "rx u") (next 0 u10 (by rw [hb1]; rfl))
  cases pr with
  | dot => exact absurd rfl hdot
  | @short _ c h1 h2 h3 h4 =>
    rw [show decide ((cs.length : Int) < 3) = true from decide_eq_true (by omega)]
    refine ite_t ?_
    refine Execs_cons <| Return_ <| Tuple_disp <| Args_cons <| Const_bool <| Args_cons <| List_disp <| Args_cons <| Tuple_disp <| Args_cons <| Sub_ <| Name_local (by walk_at "rx m") <| Neg_ <| Const_int fun u4 => Neg_int fun u5 => Item_last h3 (by omega) fun u6 => Args_cons <| Sub_ <| Name_local (by walk_at "rx m") <| Neg_ <| Const_int fun u7 => Neg_int fun u8 => Item_last h3 (by omega) fun u9 => Args_nil ⟨show (2 : Nat) ≤ sizeLine from by decide, fun t1 => Args_nil ⟨show (1 : Nat) ≤ sizeLine from by decide, fun a => Args_nil ⟨show (2 : Nat) ≤ sizeLine from by decide, fun b => ?_⟩⟩⟩
    exact ⟨_, List.Sublist.refl _, h _ _ ⟨b, a, _, rfl, (by walk_at "rx m"), (by walk_at "rx m"), .cons ⟨t1, u6, u9, rfl, (by walk_at "rx m"), h4⟩ .nil⟩⟩
  | @plain c b sp h1 h2 =>
    refine ite_b (fun hx => absurd (of_decide_eq_true hx) (by simp; omega)) (fun _ => Execs_nil ?_)
    exact fin c b sp false rfl (by simpa using h1) (by simpa using h2) rfl
  | @barred b sp h2 =>
    refine ite_b (fun hx => absurd (of_decide_eq_true hx) (by simp; omega)) (fun _ => Execs_nil ?_)
    exact fin 94 b sp true rfl rfl (by simpa using h2) rfl
end
end
section
open PySem.Calls PyProof.V PySem.Spec PySem.SeqAt
open StrLaws
section
variable {prog : Program} {w : World} {A : Around} {E : Value → Shared → Prop} {s : Shared} {x y z : Str} {t u v : Tok} {Q : Value → Shared → Prop} {env : Env}
theorem call_repl (hu : (Builtin.Str.occurrences x y 0 x.length (x.length + 1)).isEmpty = false → u ≠ 0 ∧ v ≠ 0 ∧ u ≠ v) (hyz : (y == z) = false) (hb : x.length + (x.length + 1) * z.length ≤ 16777216)
    (hq : ∀ t' k, s.toks ≤ k → Q (.str (Txt.replace x y z) t') { s with toks := k }) : wpAny (model prog w) A (call (.builtin "str.replace") [.str x t, .str y u, .str z v]) Q E s := by
  have hl : Builtin.Str.tooLong (x.length + (Builtin.Str.occurrences x y 0 x.length (x.length + 1)).length * z.length) = false := by
    have h1 := StrLaws.occ_length_le x y 0 x.length (x.length + 1)
    have h2 : (Builtin.Str.occurrences x y 0 x.length (x.length + 1)).length * z.length ≤ (x.length + 1) * z.length := Nat.mul_le_mul_right _ h1
    unfold Builtin.Str.tooLong sizeLine
    exact decide_eq_false (by omega)
  refine call_gives F.slot_str_replace (typeIs_str _ _ _) F.entry_str_replace (F.args_str_replace_3 _ _ _)
    (gives_str_replace x y z t u v fun hc => by
      have he : (Builtin.Str.occurrences x y 0 x.length (x.length + 1)).isEmpty = false := by
        cases h : (Builtin.Str.occurrences x y 0 x.length (x.length + 1)).isEmpty with
        | false => rfl
        | true => rw [h] at hc; simp at hc
      obtain ⟨h1, h2, h3⟩ := hu he
      exact ⟨by simp [h1, h2], by simp [h3], hyz, hl⟩) ?_
  have hq' := hq
  unfold Txt.replace at hq'
  cases hc : ((Builtin.Str.occurrences x y 0 x.length (x.length + 1)).isEmpty || (y.length == 0 && z.length == 0))
  · rw [hc] at hq'
    simp only [Bool.false_eq_true, if_false] at hq' ⊢
    exact ⟨fits_replaced y hb, hq' _ _ (Nat.le_succ _)⟩
  · rw [hc] at hq'
    simp only [if_true] at hq' ⊢
    exact hq' t s.toks (Nat.le_refl _)
theorem eval_repl {o : Expr} {apos pos p1 p2 : Pos} {k1 k2 : Nat}
    (h : wpAny (model prog w) A (eval o env) (fun ov s₁ => ∃ x t, ov = .str x t ∧ ((Builtin.Str.occurrences x y 0 x.length (x.length + 1)).isEmpty = false → 0 < s₁.toks) ∧ x.length + (x.length + 1) * z.length ≤ 16777216 ∧ ∀ t' k, s₁.toks + 2 ≤ k → Q (.str (Txt.replace x y z) t') { s₁ with toks := k }) E s) (hyz : (y == z) = false)
    (hbase : attributeBase o (Str.ofString "replace") env (eval o env) = eval o env := by rfl) (hs : starEach [.Constant (.str y) k1 p1, .Constant (.str z) k2 p2] env = [(false, eval (.Constant (.str y) k1 p1) env), (false, eval (.Constant (.str z) k2 p2) env)] := by rfl) (hline : (apos.endLine == pos.line) = true := by kernel_rfl) :
    wpAny (model prog w) A (eval (.Call (.Attribute o (Str.ofString "replace") apos) [.Constant (.str y) k1 p1, .Constant (.str z) k2 p2] [] pos) env) Q E s := by
  refine Call_method2 hbase hs hline (wpAny_mono h (fun ov s₁ h₁ => ?_) fun _ _ x => x)
  obtain ⟨x, t, rfl, hp, hb, hq⟩ := h₁
  refine ⟨"str", _, F.plainAttrs_str, F.slot_str_replace, F.type_str_replace, typeIs_str _ _ _, (fun _ e => nomatch e), ?_⟩
  refine Calls.callWith_builtin rfl (Calls.evalArgs_plain (Calls.spliced_cons (Calls.Constant_str (Calls.spliced_cons (Calls.Constant_str (Calls.spliced_nil ?_))))))
  refine call_repl (fun ho => ?_) hyz hb fun t' k hk => ?_
  · have := hp ho
    refine ⟨?_, ?_, ?_⟩
    · exact Nat.ne_of_gt this
    · exact Nat.succ_ne_zero _
    · exact Nat.ne_of_lt (Nat.lt_succ_self _)
  · exact hq t' k (by simpa using hk)
end
def Wp {α : Type} (C : Cx) (σ : AS) (t : Sem α) (Q : α → AS → Prop) : Prop :=
  ∀ s E, St C σ s → 0 < s.toks → wpAny (model C.prog C.w) C.A t (fun v s' => ∃ σ', Q v σ' ∧ St C σ' s') E s
section
variable {C : Cx} {l : Loc} {D D' : Led} {g : Array GenState} {env : Env}
/-- if x == c: what follows comes after a token was drawn -/
theorem If_eqc {x : Str} {a c : Int} {t : Tok} {k : Nat} {p1 p2 p3 pos : Pos} {body orelse : List Stmt} {Q : Flow → AS → Prop} (hin : (x, some (.int a t)) ∈ l) (h1 : a = c → Wp C ⟨l, D, g⟩ (execs body env) Q) (h0 : a ≠ c → W C ⟨l, D, g⟩ (execs orelse env) Q)
    (hL : env.locals = C.L := by rfl) (hk : env.scope.kind = .function := by rfl) (hl : env.kindOf x = some .local := by kernel_rfl) (hd : (x == ("__debug__" : Str)) = false := by kernel_rfl) :
    W C ⟨l, D, g⟩ (exec (.If (.Compare (.Name x p1) [.Eq] [.Constant (.int c) k p2] p3) body orelse pos) env) Q := fun s E H => by
  obtain ⟨⟨m, hn, hm⟩, _⟩ := H.loc (List.ne_nil_of_mem hin)
  refine wpAny_If (wpAny_isTrue_Compare1 (wpAny_Name (wpAny_loadName_local hk hl (hL ▸ hn) (hm _ hin) (wpAny_Constant_int (PyProof.Rows.eq_int (wpAny_truthy_bool ?_)))) hd) rfl)
  cases hb : (a == c) with
  | true => exact h1 (by simpa using hb) _ _ (H.toks _) (Nat.succ_pos _)
  | false => exact h0 (by simpa using hb) _ _ (H.toks _)
theorem Wp.execs_cons {st : Stmt} {rest : List Stmt} {Q : Flow → AS → Prop} (h : Wp C ⟨l, D, g⟩ (exec st env) fun f σ' => match f with | .next => W C σ' (execs rest env) Q | f => Q f σ') :
    Wp C ⟨l, D, g⟩ (execs (st :: rest) env) Q := fun s E H hp => wpAny_execs_cons (wpAny_mono (h s E H hp) (fun f s' ⟨σ', q, H'⟩ => by
      cases f <;> first | exact q s' E H' | exact ⟨σ', q, H'⟩) fun _ _ e => e)
theorem Wp.assign {x : Str} {pos' : Pos} {value : Expr} {pos : Pos} {Q : Flow → AS → Prop}
    (h : Wp C ⟨l, D, g⟩ (eval value env) fun v σ' => W C σ' (storeName env x v) fun _ σ'' => Q .next σ'')
    (hs : swapsWith value (some (.Name x pos')) pos.line env = pure false := by rfl) : Wp C ⟨l, D, g⟩ (exec (.Assign [.Name x pos'] value pos) env) Q := fun s E H hp =>
  wpAny_Assign_Name (wpAny_mono (h s E H hp) (fun v s' ⟨σ', q, H'⟩ => q s' E H') fun _ _ e => e) hs
/-- name.replace(a, b).replace(c, d) -/
theorem Repl2p {x : Str} {X : Str} {t : Tok} {a b c d : Str} {px a1 a2 q1 q2 p1 p2 p3 p4 : Pos} {k1 k2 k3 k4 : Nat} {Q : Value → AS → Prop} (hin : (x, some (.str X t)) ∈ l)
    (hz1 : X.length + (X.length + 1) * b.length ≤ 16777216) (hz2 : (Txt.replace X a b).length + ((Txt.replace X a b).length + 1) * d.length ≤ 16777216) (h : ∀ t', Q (.str (Txt.replace (Txt.replace X a b) c d) t') ⟨l, D, g⟩)
    (hab : (a == b) = false := by kernel_rfl) (hcd : (c == d) = false := by kernel_rfl) (hL : env.locals = C.L := by rfl) (hk : env.scope.kind = .function := by rfl) (hl : env.kindOf x = some .local := by kernel_rfl) (hd : (x == ("__debug__" : Str)) = false := by kernel_rfl)
    (hl1 : (a1.endLine == q1.line) = true := by kernel_rfl) (hl2 : (a2.endLine == q2.line) = true := by kernel_rfl)  :
    Wp C ⟨l, D, g⟩ (eval (.Call (.Attribute (.Call (.Attribute (.Name x px) (Str.ofString "replace") a1) [.Constant (.str a) k1 p1, .Constant (.str b) k2 p2] [] q1) (Str.ofString "replace") a2) [.Constant (.str c) k3 p3, .Constant (.str d) k4 p4] [] q2) env) Q := fun s E H hp => by
  obtain ⟨⟨m, hn, hm⟩, _⟩ := H.loc (List.ne_nil_of_mem hin)
  refine eval_repl (eval_repl (wpAny_Name (wpAny_loadName_local hk hl (hL ▸ hn) (hm _ hin) ⟨X, t, rfl, fun _ => hp, hz1, fun t1 n1 hn1 => ?_⟩) hd) hab rfl rfl hl1) hcd rfl rfl hl2
  exact ⟨_, t1, rfl, fun _ => by show 0 < n1; omega, hz2, fun t2 n2 _ => ⟨_, h t2, H.toks _⟩⟩
/-- name.replace(a, b), a nowhere in it -/
theorem Repl1 {x : Str} {X : Str} {t : Tok} {a b : Str} {px a1 q1 p1 p2 : Pos} {k1 k2 : Nat} {Q : Value → AS → Prop} (hin : (x, some (.str X t)) ∈ l) (hno : (Builtin.Str.occurrences X a 0 X.length (X.length + 1)).isEmpty = true)
    (hz1 : X.length + (X.length + 1) * b.length ≤ 16777216) (h : ∀ t', Q (.str X t') ⟨l, D, g⟩)
    (hab : (a == b) = false := by kernel_rfl) (hL : env.locals = C.L := by rfl) (hk : env.scope.kind = .function := by rfl) (hl : env.kindOf x = some .local := by kernel_rfl) (hd : (x == ("__debug__" : Str)) = false := by kernel_rfl)
    (hl1 : (a1.endLine == q1.line) = true := by kernel_rfl) :
    W C ⟨l, D, g⟩ (eval (.Call (.Attribute (.Name x px) (Str.ofString "replace") a1) [.Constant (.str a) k1 p1, .Constant (.str b) k2 p2] [] q1) env) Q := fun s E H => by
  obtain ⟨⟨m, hn, hm⟩, _⟩ := H.loc (List.ne_nil_of_mem hin)
  refine eval_repl (wpAny_Name (wpAny_loadName_local hk hl (hL ▸ hn) (hm _ hin) ⟨X, t, rfl, fun q => absurd (hno.symm.trans q) (by decide), hz1, fun t1 n1 hn1 => ?_⟩) hd) hab rfl rfl hl1
  have e : Txt.replace X a b = X := by unfold Txt.replace; rw [hno]; simp
  rw [e]
  exact ⟨_, h t1, H.toks _⟩
theorem Add_T {a b : List Nat} {t u : Tok} {Q : Value → AS → Prop} (hz : a.length + b.length ≤ 1000000) (h : ∀ t, Q (.str (T (a ++ b)) t) ⟨l, D, g⟩) : W C ⟨l, D, g⟩ (binaryOp .Add (.str (T a) t) (.str (T b) u)) Q := fun s E H => by
  refine PyProof.Rows.add_str (fun t' tk => ?_) (by rw [len_T, len_T]; show _ ≤ 2 ^ 24; omega)
  have e : T a ++ T b = T (a ++ b) := by apply Str.ext'; show (T a).cps ++ (T b).cps = _; simp
  rw [e]
  exact ⟨_, h _, H.toks _⟩
theorem IAdd_T {a b : List Nat} {t u : Tok} {Q : Value → AS → Prop} (hz : a.length + b.length ≤ 1000000) (h : ∀ t, Q (.str (T (a ++ b)) t) ⟨l, D, g⟩) : W C ⟨l, D, g⟩ (inplaceOp .Add (.str (T a) t) (.str (T b) u)) Q := fun s E H => by
  refine PyProof.Rows.iadd_str (fun t' tk => ?_) (by rw [len_T, len_T]; show _ ≤ 2 ^ 24; omega)
  have e : T a ++ T b = T (a ++ b) := by apply Str.ext'; show (T a).cps ++ (T b).cps = _; simp
  rw [e]
  exact ⟨_, h _, H.toks _⟩
end
end
section
open PySem.Calls PyProof.V PySem.Spec PySem.SeqAt
open StrLaws
section
variable {C : Cx} {l : Loc} {D D' : Led} {g : Array GenState} {env : Env}
theorem SliceL {value slice : Expr} {b sl : Addr} {its : List Value} {lv uv sv : Value} {lo hi st : Option Int} {ops : List Value} {Q : Value → AS → Prop} (kb : Kn C D b (listP its)) (hin : (sl, sliceP lv uv sv) ∈ D) (pl : IsPart lv lo) (pu : IsPart uv hi) (ps : IsPart sv st) (h0 : st ≠ some 0) (hz : its.length ≤ 1000000)
    (h : ∀ a, Q (.ref a) ⟨l, (a, listP (slicePick its.toArray lo hi st).toList) :: D, g⟩)
    (hs : subscripted slice false (.ref b) (.ref sl) = operate ops (getItem (.ref b) (.ref sl)) := by with_unfolding_all rfl) : W C ⟨l, D, g⟩ (subscriptTail value slice (.ref b) (.ref sl)) Q := fun s E H => by
  have hl := kb.list H
  obtain ⟨o, ho, hc, hd⟩ := H.obj hin
  refine tail_any hl.typeIs slot_list_getitem.lookup (wpAny_getItem_list_slice hl ⟨o, ho, hc, hd⟩ pl pu ps h0 ⟨_, h _, ?_⟩ (by rw [List.size_toArray]; exact Nat.le_trans hz (by show _ ≤ 2 ^ 24; omega))) hs
  exact H.push _ ⟨0, by simp⟩
theorem ItemZ {value slice : Expr} {a : Addr} {its : List Value} {i : Int} {k : Nat} {u : Tok} {x : Value} {Q : Value → AS → Prop} (kl : Kn C D a (listP its)) (hi : i = (k : Int)) (hx : its[k]? = some x) (hk : k < 1000000) (h : Q x ⟨l, D, g⟩)
    (hs : subscripted slice false (.ref a) (.int i u) = operate [.ref a, .int i u] (getItem (.ref a) (.int i u)) := by with_unfolding_all rfl) : W C ⟨l, D, g⟩ (subscriptTail value slice (.ref a) (.int i u)) Q := by
  subst hi
  exact ItemN kl hx hk h hs
end
/-- a value is this text -/
def StrIs (v : Value) (cs : List Nat) : Prop := ∃ y t, v = .str y t ∧ y = T cs
theorem paired_get {α β : Type} {R : α → β → Prop} : ∀ {l : List α} {m : List β}, Paired R l m → ∀ {k : Nat} {b : β}, m[k]? = some b → ∃ a, l[k]? = some a ∧ R a b
  | _, _, .cons h t, 0, b, e => by
    simp at e; subst e
    exact ⟨_, rfl, h⟩
  | _, _, .cons h t, k + 1, b, e => by
    obtain ⟨a, ha, r⟩ := paired_get t (k := k) (b := b) (by simpa using e)
    exact ⟨a, by simpa using ha, r⟩
theorem getD_some {α : Type} {l : List α} {k : Nat} (h : k < l.length) (d : α) : l[k]? = some (l.getD k d) := by
  rw [List.getD_eq_getElem?_getD, List.getElem?_eq_getElem h]; rfl
def kindSegs : List (List Nat) := [[63], [112], [99], [100], [98], [45], [108], [115], [91, 63, 93], [91, 33, 63, 93]]
def segR : List (List Nat) := [[63], [45], [114]]
def segW : List (List Nat) := [[63], [45], [119]]
def th0 : List (List Nat) := [[91, 120, 45, 93], [91, 33, 115, 83, 93], [91, 33, 83, 45, 115, 93]]
def th1 : List (List Nat) := [[91, 115, 83, 93], [91, 33, 120, 45, 93], [91, 83, 45, 115, 93]]
def th2 : List (List Nat) := [[91, 45, 83, 93], [91, 33, 120, 115, 93], [91, 45, 45, 83, 93]]
def th3 : List (List Nat) := [[91, 120, 115, 93], [91, 33, 45, 83, 93], [91, 115, 45, 120, 93]]
def thirdsL (sp : Nat) : List (List (List Nat)) := [[[63], th0.getD sp [], th1.getD sp []], [th2.getD sp [], [45], [83]], [th3.getD sp [], [120], [115]]]
def third (sp a b : Nat) : List Nat := ((thirdsL sp).getD a []).getD b []
def toT (c : Nat) : Nat := if c = 115 then 116 else if c = 83 then 84 else c
def thirdAt (sp p a b : Nat) : List Nat := if p = 2 then (third sp a b).map toT else third sp a b
def placeSegs (ws : List Nat) (p : Nat) : List (List Nat) := [segR.getD (ws.getD (8 - 3 * p) 0) [], segW.getD (ws.getD (7 - 3 * p) 0) [], thirdAt (ws.getD 12 0) p (ws.getD (6 - 3 * p) 0) (ws.getD (11 - p) 0)]
def segsFrom (ws : List Nat) : Nat → Nat → List (List Nat)
  | _, 0 => []
  | p, n + 1 => placeSegs ws p ++ segsFrom ws (p + 1) n
def segsOf (kind : Nat) (ws : List Nat) : List (List Nat) := kindSegs.getD kind [] :: segsFrom ws 0 3
def allThirds : Bool := (List.range 3).all fun sp => (List.range 3).all fun a => (List.range 3).all fun b =>
  (Txt.replace (Txt.replace (T (third sp a b)) (S "s") (S "t")) (S "S") (S "T")).cps == (T ((third sp a b).map toT)).cps && decide ((third sp a b).length ≤ 6) && decide ((Txt.replace (T (third sp a b)) (S "s") (S "t")).length ≤ 6)
theorem allThirds_true : allThirds = true := by decide +kernel
theorem third_ok {sp a b : Nat} (h1 : sp < 3) (h2 : a < 3) (h3 : b < 3) : Txt.replace (Txt.replace (T (third sp a b)) (S "s") (S "t")) (S "S") (S "T") = T ((third sp a b).map toT) ∧ (third sp a b).length ≤ 6 ∧ (Txt.replace (T (third sp a b)) (S "s") (S "t")).length ≤ 6 := by
  have h := allThirds_true
  unfold allThirds at h
  have := List.all_eq_true.mp (List.all_eq_true.mp (List.all_eq_true.mp h sp (List.mem_range.mpr h1)) a (List.mem_range.mpr h2)) b (List.mem_range.mpr h3)
  simp only [Bool.and_eq_true, decide_eq_true_eq] at this
  exact ⟨Str.ext' (eq_of_beq this.1.1), this.1.2, this.2⟩
theorem pow3_small {j : Nat} (h : j ≤ 12) : ((3 : Int) ^ j) ≠ 0 ∧ ((3 : Int) ^ j).natAbs < 1073741824 := by
  have e : ((3 : Int) ^ j).natAbs = 3 ^ j := by rw [Int.natAbs_pow]; rfl
  have hp : 0 < 3 ^ j := Nat.pow_pos (by decide)
  refine ⟨fun z => ?_, ?_⟩
  · rw [z] at e; simp at e; omega
  · rw [e]; exact Nat.lt_of_le_of_lt (Nat.pow_le_pow_right (by decide) h) (by decide)
def qComp : Expr := valOf ((bodyAt 31).getD 1 noStmt)
section
variable {C : Cx} {g : Array GenState} {cd : Value} {a I cx fa L₀ : Addr} {x : Int} {tx : Tok}
set_option maxHeartbeats 1000000 in
theorem question_comp {elt target iter : Expr} {scope : Scope} {pos : Pos} (hs : qComp = compOf elt target iter [] scope pos) (R : Room C.A 0) (cxk : C.h₀.IsCell cx (some (.int x tx))) :
    ∀ (n j : Nat) (its : List Value) (ns : List Nat) (o : Option Value), j + n = 13 → its.length ≤ j → ns.length = j → (∀ k ∈ ns, k < 3) → IntsAre its (List.map (fun k : Nat => (k : Int)) ns) →
      WComp C ⟨[(S "k", o)], [(a, listP its), (I, rangeIterP j n 1)], g⟩ (compOf elt target iter [] scope pos) (.ref I) (.ref a) (compEnvC scope [(S "x", cx)] C.L (envOfC (S "_law_question") (scopeAt 31) L₀ fa cd))
        fun σ' => ∃ o vs' ns', IntsAre vs' (List.map (fun k : Nat => (k : Int)) ns') ∧ (∀ k ∈ ns', k < 3) ∧ ns'.length = 13 ∧ σ' = ⟨[(S "k", o)], [(a, listP vs')], g⟩ := by
  cases hs
  intro n
  induction n with
  | zero =>
    intro j its ns o hj hz hn h3 hi
    refine WComp.step0 (Next_range_end (left := ((0 : Nat) : Int)) R.handled (by omega) (by walk_at "rx m") (by walk_at "rx d") ?_)
    dsimp only
    exact ⟨o, its, ns, hi, h3, by omega, rfl⟩
  | succ n ih =>
    intro j its ns o hj hz hn h3 hi
    have hp := pow3_small (j := j) (by omega)
    refine WComp.step0 (Next_range (left := ((n + 1 : Nat) : Int)) (by omega) (by walk_at "rx ud") fun tk => ?_)
    dsimp only
    refine let_plain <| Assign_target <| Store_local (by walk_at "rx u") ?_
    refine BinOp_ <| BinOp_ <| BinOp_ <| Name_cell0 (by rfl) cxk <| Const_int fun t1 => Div_int (by decide) (by decide) fun t2 => BinOp_ <| Const_int fun t3 => Name_local (by walk_at "rx m") <| Pow_int (by omega) (by omega) (by decide) fun t4 => ?_
    rw [Int.toNat_natCast]
    refine Div_int hp.1 hp.2 fun t5 => Const_int fun t6 => Mod_int (by decide) fun t7 => ?_
    generalize hv : ((x.fdiv 10).fdiv (3 ^ j)).fmod 3 = v
    have hv0 : 0 ≤ v := hv ▸ Int.fmod_nonneg_of_pos _ (by decide)
    have hv3 : v < 3 := hv ▸ Int.fmod_lt_of_pos _ (by decide)
    obtain ⟨m, rfl⟩ := Int.eq_ofNat_of_zero_le hv0
    refine ⟨a, its, _, rfl, by omega, by walk_at "rx ud", ?_⟩
    have e : (((n + 1 : Nat) : Int) - 1) = (n : Int) := by omega
    dsimp only
    rw [e]
    refine ih (j + 1) (its ++ [.int m t7]) (ns ++ [m]) (some (.int j tk)) (by omega) (by simp; omega) (by simp; omega) ?_ ?_
    · intro k hk
      rcases List.mem_append.mp hk with hk | hk
      · exact h3 k hk
      · cases List.mem_singleton.mp hk; omega
    · rw [List.map_append]
      exact ints_snoc hi _ _
end
def qLoop : Stmt := (bodyAt 31).getD 5 noStmt
abbrev natInts (ws : List Nat) : List Int := List.map (fun k : Nat => (k : Int)) ws
theorem nat_get {vs : List Value} {ws : List Nat} (h : IntsAre vs (natInts ws)) {k : Nat} (hk : k < ws.length) : ∃ t, vs[k]? = some (.int (ws.getD k 0 : Nat) t) := by
  refine ints_get h ?_
  rw [List.getElem?_map, getD_some hk 0]; rfl
theorem ws_lt {ws : List Nat} (h : ∀ k ∈ ws, k < 3) (k : Nat) : ws.getD k 0 < 3 := by
  by_cases hk : k < ws.length
  · exact h _ (List.mem_of_getElem? (getD_some hk 0))
  · rw [List.getD_eq_getElem?_getD, List.getElem?_eq_none (by omega)]; simp
theorem strIs_of {v : Value} {cs : List Nat} (h : StrIs v cs) : ∃ t, v = .str (T cs) t := by obtain ⟨y, t, rfl, rfl⟩ := h; exact ⟨t, rfl⟩
theorem str3 {x y z : Str} {t u v : Tok} {a b c : List Nat} (h1 : x = T a) (h2 : y = T b) (h3 : z = T c) : Paired StrIs [.str x t, .str y u, .str z v] [a, b, c] := .cons ⟨_, _, rfl, h1⟩ <| .cons ⟨_, _, rfl, h2⟩ <| .cons ⟨_, _, rfl, h3⟩ .nil
section
variable {C : Cx} {g : Array GenState} {cd : Value} {I r fa wa th r0 r1 r2 : Addr} {vs w0 w1 w2 : List Value} {ws : List Nat} {kv : Value} {K : Led}
abbrev qLoc (kv : Value) (wa : Addr) (cs : List Nat) (tt : Tok) (sp : Value) (th : Addr) (p q : Option Value) : Loc :=
  [(S "kind", some kv), (S "wish", some (.ref wa)), (S "text", some (.str (T cs) tt)), (S "spell", some sp), (S "thirds", some (.ref th)), (S "place", p), (S "third", q)]
abbrev qLed (I r wa th r0 r1 r2 : Addr) (p n : Int) (vs w0 w1 w2 : List Value) (K : Led) : Led :=
  [(I, rangeIterP p n 1), (r, rangeP 0 3 1), (th, listP [.ref r0, .ref r1, .ref r2]), (r2, listP w2), (r1, listP w1), (r0, listP w0), (wa, listP vs)] ++ K
set_option maxHeartbeats 1000000 in
theorem question_loop {target iter : Expr} {body orelse : List Stmt} {pos : Pos} (hs : qLoop = .For target iter body orelse pos) (R : Room C.A 0) (iw : IntsAre vs (natInts ws)) (hlen : ws.length = 13) (h3 : ∀ k ∈ ws, k < 3)
    (hw0 : Paired StrIs w0 ((thirdsL (ws.getD 12 0)).getD 0 [])) (hw1 : Paired StrIs w1 ((thirdsL (ws.getD 12 0)).getD 1 [])) (hw2 : Paired StrIs w2 ((thirdsL (ws.getD 12 0)).getD 2 [])) {sp : Value} :
    ∀ (n p : Nat) (cs : List Nat) (tt : Tok) (o q : Option Value), p + n = 3 → cs.length ≤ 10 + 20 * p →
      WLoop C ⟨qLoc kv wa cs tt sp th o q, qLed I r wa th r0 r1 r2 p n vs w0 w1 w2 K, g⟩ target (.ref I) body orelse (envOfC (S "_law_question") (scopeAt 31) C.L fa cd)
        fun f σ' => f = .next ∧ ∃ tt o q, σ' = ⟨qLoc kv wa (cs ++ (segsFrom ws p n).flatten) tt sp th o q, [(wa, listP vs)] ++ K, g⟩ := by
  cases hs
  intro n
  induction n with
  | zero =>
    intro p cs tt o q hp hz
    refine WLoop.step (Next_range_end (left := ((0 : Nat) : Int)) R.handled (by omega) (by walk_at "rx m") (by walk_at "rx d") ?_)
    dsimp only
    refine Execs_end (D' := [(wa, listP vs)] ++ K) ?_ ⟨rfl, tt, o, q, ?_⟩
    · exact List.Sublist.cons _ (List.Sublist.cons _ (List.Sublist.cons _ (List.Sublist.cons _ (List.Sublist.cons _ (List.Sublist.refl _)))))
    · simp [segsFrom]
  | succ n ih =>
    intro p cs tt o q hp hz
    have hp3 : p < 3 := by omega
    obtain ⟨tA, hA⟩ := nat_get iw (k := 6 - 3 * p) (by omega)
    obtain ⟨tB, hB⟩ := nat_get iw (k := 11 - p) (by omega)
    obtain ⟨tC, hC⟩ := nat_get iw (k := 8 - 3 * p) (by omega)
    obtain ⟨tE, hE⟩ := nat_get iw (k := 7 - 3 * p) (by omega)
    have lA := ws_lt h3 (6 - 3 * p)
    have lB := ws_lt h3 (11 - p)
    have lC := ws_lt h3 (8 - 3 * p)
    have lE := ws_lt h3 (7 - 3 * p)
    have lS := ws_lt h3 12
    generalize hga : ws.getD (6 - 3 * p) 0 = A at hA lA
    generalize hgb : ws.getD (11 - p) 0 = B at hB lB
    generalize hgc : ws.getD (8 - 3 * p) 0 = Cc at hC lC
    generalize hge : ws.getD (7 - 3 * p) 0 = Ee at hE lE
    generalize hgs : ws.getD 12 0 = sp' at hw0 hw1 hw2 lS
    obtain ⟨hrep, hl1, hl2⟩ := third_ok lS lA lB
    have row : ∃ rr wr, [Value.ref r0, .ref r1, .ref r2][A]? = some (.ref rr) ∧ Kn C (qLed I r wa th r0 r1 r2 ((p : Int) + 1) (((n + 1 : Nat) : Int) - 1) vs w0 w1 w2 K) rr (listP wr) ∧ Paired StrIs wr ((thirdsL sp').getD A []) := by
      have : A = 0 ∨ A = 1 ∨ A = 2 := by omega
      rcases this with rfl | rfl | rfl
      · exact ⟨r0, w0, rfl, .inr (by walk_at "rx m"), hw0⟩
      · exact ⟨r1, w1, rfl, .inr (by walk_at "rx m"), hw1⟩
      · exact ⟨r2, w2, rfl, .inr (by walk_at "rx m"), hw2⟩
    obtain ⟨rr, wr, hrr, krr, hwr⟩ := row
    have hlr : B < ((thirdsL sp').getD A []).length := by
      have : A = 0 ∨ A = 1 ∨ A = 2 := by omega
      rcases this with rfl | rfl | rfl <;> exact lB
    obtain ⟨v3, hv3, hs3⟩ := paired_get hwr (getD_some hlr [])
    obtain ⟨t3, rfl⟩ := strIs_of hs3
    refine WLoop.step (Next_range (left := ((n + 1 : Nat) : Int)) (by omega) (by walk_at "rx ud") fun tk => ?_)
    dsimp only
    refine let_plain <| Assign_target <| Store_local (by walk_at "rx u") ?_
    refine Execs_cons <| Assign_Name <| Sub_ <| Sub_ <| Name_local (by walk_at "rx m") <| Sub_ <| Name_local (by walk_at "rx m") <| BinOp_ <| Const_int fun u1 => BinOp_ <| Const_int fun u2 => Name_local (by walk_at "rx m") <| Mul_int (IntMulOk.of_left (by decide +kernel)) fun u3 => Sub_int fun u4 => ItemZ (k := 6 - 3 * p) (.inr (by walk_at "rx m")) (by omega) hA (by omega) <| ItemZ (k := A) (.inr (by walk_at "rx m")) rfl hrr (by omega) <| Sub_ <| Name_local (by walk_at "rx m") <| BinOp_ <| Const_int fun u5 => Name_local (by walk_at "rx m") <| Sub_int fun u6 => ItemZ (k := 11 - p) (.inr (by walk_at "rx m")) (by omega) hB (by omega) <| ItemZ (k := B) krr rfl hv3 (by omega) <| Store_local (by walk_at "rx u") ?_
    have last : ∀ (cs3 : List Nat) (t4 : Tok), cs3 = thirdAt sp' p A B → cs3.length ≤ 6 →
        W C ⟨qLoc kv wa cs tt sp th (some (.int p tk)) (some (.str (T cs3) t4)), qLed I r wa th r0 r1 r2 ((p : Int) + 1) (((n + 1 : Nat) : Int) - 1) vs w0 w1 w2 K, g⟩ (execs ((match qLoop with | .For _ _ b _ _ => b | _ => []).drop 2) (envOfC (S "_law_question") (scopeAt 31) C.L fa cd))
          fun f σ₄ => match f with
            | .next => WLoop C σ₄ (match qLoop with | .For t _ _ _ _ => t | _ => .Constant .none 0 ⟨0, 0, 0, 0⟩) (.ref I) (match qLoop with | .For _ _ b _ _ => b | _ => []) (match qLoop with | .For _ _ _ o _ => o | _ => []) (envOfC (S "_law_question") (scopeAt 31) C.L fa cd) fun f σ' => f = .next ∧ ∃ tt o q, σ' = ⟨qLoc kv wa (cs ++ (segsFrom ws p (n + 1)).flatten) tt sp th o q, [(wa, listP vs)] ++ K, g⟩
            | .cont => WLoop C σ₄ (match qLoop with | .For t _ _ _ _ => t | _ => .Constant .none 0 ⟨0, 0, 0, 0⟩) (.ref I) (match qLoop with | .For _ _ b _ _ => b | _ => []) (match qLoop with | .For _ _ _ o _ => o | _ => []) (envOfC (S "_law_question") (scopeAt 31) C.L fa cd) fun f σ' => f = .next ∧ ∃ tt o q, σ' = ⟨qLoc kv wa (cs ++ (segsFrom ws p (n + 1)).flatten) tt sp th o q, [(wa, listP vs)] ++ K, g⟩
            | .brk => Flow.next = .next ∧ ∃ tt o q, σ₄ = ⟨qLoc kv wa (cs ++ (segsFrom ws p (n + 1)).flatten) tt sp th o q, [(wa, listP vs)] ++ K, g⟩
            | .ret v => Flow.ret v = .next ∧ ∃ tt o q, σ₄ = ⟨qLoc kv wa (cs ++ (segsFrom ws p (n + 1)).flatten) tt sp th o q, [(wa, listP vs)] ++ K, g⟩ := by
      intro cs3 t4 h3e h3l
      obtain ⟨vr, hvr, hsr⟩ : ∃ v : Nat → Nat → Nat → Value, (∀ a b c, [Value.str (S "?") a, .str (S "-") b, .str (S "r") c][Cc]? = some (v a b c)) ∧ ∀ a b c, StrIs (v a b c) (segR.getD Cc []) := by
        have : Cc = 0 ∨ Cc = 1 ∨ Cc = 2 := by omega
        rcases this with rfl | rfl | rfl
        · exact ⟨fun a _ _ => .str (S "?") a, fun _ _ _ => rfl, fun _ _ _ => ⟨_, _, rfl, by kernel_rfl⟩⟩
        · exact ⟨fun _ b _ => .str (S "-") b, fun _ _ _ => rfl, fun _ _ _ => ⟨_, _, rfl, by kernel_rfl⟩⟩
        · exact ⟨fun _ _ c => .str (S "r") c, fun _ _ _ => rfl, fun _ _ _ => ⟨_, _, rfl, by kernel_rfl⟩⟩
      obtain ⟨vw, hvw, hsw⟩ : ∃ v : Nat → Nat → Nat → Value, (∀ a b c, [Value.str (S "?") a, .str (S "-") b, .str (S "w") c][Ee]? = some (v a b c)) ∧ ∀ a b c, StrIs (v a b c) (segW.getD Ee []) := by
        have : Ee = 0 ∨ Ee = 1 ∨ Ee = 2 := by omega
        rcases this with rfl | rfl | rfl
        · exact ⟨fun a _ _ => .str (S "?") a, fun _ _ _ => rfl, fun _ _ _ => ⟨_, _, rfl, by kernel_rfl⟩⟩
        · exact ⟨fun _ b _ => .str (S "-") b, fun _ _ _ => rfl, fun _ _ _ => ⟨_, _, rfl, by kernel_rfl⟩⟩
        · exact ⟨fun _ _ c => .str (S "w") c, fun _ _ _ => rfl, fun _ _ _ => ⟨_, _, rfl, by kernel_rfl⟩⟩
      have hrl : (segR.getD Cc []).length ≤ 1 := by
        have : Cc = 0 ∨ Cc = 1 ∨ Cc = 2 := by omega
        rcases this with rfl | rfl | rfl <;> decide
      have hwl : (segW.getD Ee []).length ≤ 1 := by
        have : Ee = 0 ∨ Ee = 1 ∨ Ee = 2 := by omega
        rcases this with rfl | rfl | rfl <;> decide
      change W C _ (execs (_ :: _) _) _
      refine Execs_cons <| Aug_Name <| Load_local (by walk_at "rx m") <| BinOp_ <| BinOp_ <| Sub_ <| List_disp <| Args_cons <| Const_str fun a1 => Args_cons <| Const_str fun a2 => Args_cons <| Const_str fun a3 => Args_nil ⟨show (3 : Nat) ≤ sizeLine from by decide, fun la => ?_⟩
      obtain ⟨tr, her⟩ := strIs_of (hsr a1 a2 a3)
      have hvr' := hvr a1 a2 a3
      rw [her] at hvr'
      refine Sub_ <| Name_local (by walk_at "rx m") <| BinOp_ <| Const_int fun u1 => BinOp_ <| Const_int fun u2 => Name_local (by walk_at "rx m") <| Mul_int (IntMulOk.of_left (by decide +kernel)) fun u3 => Sub_int fun u4 => ItemZ (k := 8 - 3 * p) (.inr (by walk_at "rx m")) (by omega) hC (by omega) <| ItemZ (k := Cc) (.inr (by walk_at "rx m")) rfl hvr' (by omega) ?_
      refine Sub_ <| List_disp <| Args_cons <| Const_str fun b1 => Args_cons <| Const_str fun b2 => Args_cons <| Const_str fun b3 => Args_nil ⟨show (3 : Nat) ≤ sizeLine from by decide, fun lb => ?_⟩
      obtain ⟨tw, hew⟩ := strIs_of (hsw b1 b2 b3)
      have hvw' := hvw b1 b2 b3
      rw [hew] at hvw'
      refine Sub_ <| Name_local (by walk_at "rx m") <| BinOp_ <| Const_int fun u5 => BinOp_ <| Const_int fun u6 => Name_local (by walk_at "rx m") <| Mul_int (IntMulOk.of_left (by decide +kernel)) fun u7 => Sub_int fun u8 => ItemZ (k := 7 - 3 * p) (.inr (by walk_at "rx m")) (by omega) hE (by omega) <| ItemZ (k := Ee) (.inr (by walk_at "rx m")) rfl hvw' (by omega) ?_
      refine Add_T (by omega) fun t5 => Name_local (by walk_at "rx m") <| Add_T (by simp only [List.length_append]; omega) fun t6 => IAdd_T (by simp only [List.length_append]; omega) fun t7 => Store_local (by walk_at "rx u") ?_
      refine Execs_end (D' := qLed I r wa th r0 r1 r2 ((p : Int) + 1) (((n + 1 : Nat) : Int) - 1) vs w0 w1 w2 K) (by exact List.Sublist.cons _ (List.Sublist.cons _ (List.Sublist.refl _))) ?_
      dsimp only
      have := ih (p + 1) (cs ++ (segR.getD Cc [] ++ segW.getD Ee [] ++ cs3)) t7 (some (.int p tk)) (some (.str (T cs3) t4)) (by omega) (by simp only [List.length_append]; omega)
      have e1 : (cs ++ (segR.getD Cc [] ++ segW.getD Ee [] ++ cs3)) ++ (segsFrom ws (p + 1) n).flatten = cs ++ (segsFrom ws p (n + 1)).flatten := by
        rw [segsFrom, placeSegs, hga, hgb, hgc, hge, hgs, ← h3e]
        simp
      rw [e1] at this
      have e : (((n + 1 : Nat) : Int) - 1) = (n : Int) := by omega
      rw [e]
      exact this
    refine Execs_cons <| If_eqc (a := (p : Int)) (c := 2) (by walk_at "rx m") (fun hp2 => ?_) (fun hp2 => ?_)
    · have hp2' : p = 2 := by omega
      refine Wp.execs_cons <| Wp.assign <| Repl2p (X := T (third sp' A B)) (by walk_at "rx m") ?_ ?_ fun t5 => ?_
      · rw [len_T]; show _ + _ * 1 ≤ _; omega
      · have hl2' : (Txt.replace (T (third sp' A B)) (Str.ofString "s") (Str.ofString "t")).length ≤ 6 := hl2
        show _ + _ * 1 ≤ _; omega
      rw [show Txt.replace (Txt.replace (T (third sp' A B)) (Str.ofString "s") (Str.ofString "t")) (Str.ofString "S") (Str.ofString "T") = T ((third sp' A B).map toT) from hrep]
      refine Store_local (by walk_at "rx u") <| Execs_nil <| last _ t5 ?_ ?_
      · rw [thirdAt, if_pos hp2']
      · simpa using hl1
    · refine Execs_nil <| last _ t3 ?_ hl1
      rw [thirdAt, if_neg (by omega)]; rfl
end
end
section
open PySem.Calls PyProof.V PySem.Spec PySem.SeqAt
open StrLaws
section
variable {C : Cx} {l : Loc} {D : Led} {g : Array GenState} {mg mb : Str → Option Value} {fa : Addr} {x : Int} {tx : Tok} {k : Nat} {Q : Value → AS → Prop}
set_option maxHeartbeats 1000000 in
theorem question_call (G : Gl C.h₀ mg mb) (F : Def C.h₀ mg 31 (S "_law_question") fa) (hr : mg (S "range") = none) (hb : mb (S "range") = some (.type "range")) (R : Room C.A (k + 1))
    (h : ∀ (kind : Nat) (ws : List Nat) (vs : List Value) (t wa : Addr) (tk tt : Tok) (D' : Led), kind < 10 → ws.length = 13 → (∀ k ∈ ws, k < 3) → IntsAre vs (natInts (ws.take 12)) →
      (t, tupP [.int kind tk, .ref wa, .str (T (segsOf kind ws).flatten) tt]) ∈ D' → (wa, listP vs) ∈ D' → Q (.ref t) ⟨l, D' ++ D, g⟩) : W C ⟨l, D, g⟩ (call (.ref fa) [.int x tx]) Q := by
  refine Call_cells (l' := [(S "kind", none), (S "wish", none), (S "text", none), (S "spell", none), (S "thirds", none), (S "place", none), (S "third", none)]) (binds := [(S "x", .int x tx)])
    (cells := fun L => [(L + 1, cellP (some (.int x tx)))]) G F R (fun _ _ _ => by rfl) ?_ ?_ (by simp only [List.map_cons, List.map_nil]; decide +kernel) (fun _ _ => by rfl) ?_ ?_ ?_
  · intro L y hy
    cases List.mem_singleton.mp hy
    exact .inr ⟨by kernel_rfl, by rfl⟩
  · intro L cd p hp
    simp only [List.mem_cons, List.not_mem_nil, or_false] at hp
    rcases hp with rfl | rfl | rfl | rfl | rfl | rfl | rfl <;> rfl
  · intro L
    show [L + 1].Nodup ∧ ∀ c ∈ [L + 1], L < c
    refine ⟨by simp, fun c hc => ?_⟩
    cases List.mem_singleton.mp hc
    exact Nat.lt_add_of_pos_right (by decide)
  · intro L p hp
    have hp' : p ∈ [(S "x", L + 1)] := hp
    cases List.mem_singleton.mp hp'
    rfl
  intro C' cd Su R' G'
  dsimp only
  change W C' _ (execs (_ :: _ :: _ :: _ :: _ :: _ :: _ :: _) _) _
  refine Execs_cons <| Assign_Name <| BinOp_ <| Name_cell (by rfl) (by walk_at "rx m") <| Const_int fun u1 => Mod_int (by decide) fun u2 => ?_
  generalize hkk : x.fmod 10 = kk
  have hk0 : 0 ≤ kk := hkk ▸ Int.fmod_nonneg_of_pos _ (by decide)
  have hk10 : kk < 10 := hkk ▸ Int.fmod_lt_of_pos _ (by decide)
  obtain ⟨kind, rfl⟩ := Int.eq_ofNat_of_zero_le hk0
  refine Store_local (by walk_at "rx u") <| Execs_cons ?_
  refine Assign_ListComp [(S "k", none)] [(S "x", C'.L + 1)] (by rfl) (by rfl) (by decide +kernel) (by kernel_rfl) (by decide +kernel) (by simp) (by simp) (by simp only [List.map_cons, List.map_nil]; decide +kernel) ?_
  refine Call_ty G' hr hb (Args_cons (Const_int fun t8 => Args_nil (Range1 fun ra => ?_)))
  intro C2 I2
  refine Iter_range (a := 0) (b := 13) (c := 1) (fun s H => ?_) (by rfl) fun I => ?_
  · obtain ⟨o, ho, hp⟩ := I2.led (ra, rangeP 0 13 1) (List.Mem.head _)
    exact ⟨o, H.keep _ _ ho, hp⟩
  intro L a
  refine ⟨fun Q' q => Self_range (by walk_at "rx m") q, ?_⟩
  have c1 : C2.h₀.IsCell (C'.L + 1) (some (.int x tx)) := by
    obtain ⟨o, ho, hp⟩ := I2.led (C'.L + 1, cellP (some (.int x tx))) (by walk_at "rx m")
    exact ⟨o, ho, hp⟩
  have Rc : Room C2.A 0 := by rw [I2.A]; exact R'.less (by omega)
  refine WComp.mono (question_comp (C := { C2 with L := L }) (by rfl) Rc c1 13 0 [] [] none rfl (Nat.zero_le _) rfl (by simp) .nil) ?_
  rintro σ' ⟨o, vs, ws, iw, h3, hlen, rfl⟩
  refine ⟨by simp, [(a, listP vs)], List.Sublist.refl _, _, by walk_at "rx u", ?_⟩
  dsimp only [List.cons_append, List.nil_append]
  refine Execs_cons ?_
  refine Assign_Name ?_
  refine Sub_ ?_
  refine List_disp ?_
  refine Args_cons ?_
  refine Const_str fun a0 => ?_
  refine Args_cons ?_
  refine Const_str fun a1 => ?_
  refine Args_cons ?_
  refine Const_str fun a2 => ?_
  refine Args_cons ?_
  refine Const_str fun a3 => ?_
  refine Args_cons ?_
  refine Const_str fun a4 => ?_
  refine Args_cons ?_
  refine Const_str fun a5 => ?_
  refine Args_cons ?_
  refine Const_str fun a6 => ?_
  refine Args_cons ?_
  refine Const_str fun a7 => ?_
  refine Args_cons ?_
  refine Const_str fun a8 => ?_
  refine Args_cons ?_
  refine Const_str fun a9 => ?_
  refine Args_nil ⟨show (10 : Nat) ≤ sizeLine from by decide, fun kl => ?_⟩
  have hks : Paired StrIs [.str (S "?") a0, .str (S "p") a1, .str (S "c") a2, .str (S "d") a3, .str (S "b") a4, .str (S "-") a5, .str (S "l") a6, .str (S "s") a7, .str (S "[?]") a8, .str (S "[!?]") a9] kindSegs :=
    .cons ⟨_, _, rfl, by kernel_rfl⟩ <| .cons ⟨_, _, rfl, by kernel_rfl⟩ <| .cons ⟨_, _, rfl, by kernel_rfl⟩ <| .cons ⟨_, _, rfl, by kernel_rfl⟩ <| .cons ⟨_, _, rfl, by kernel_rfl⟩ <| .cons ⟨_, _, rfl, by kernel_rfl⟩ <| .cons ⟨_, _, rfl, by kernel_rfl⟩ <| .cons ⟨_, _, rfl, by kernel_rfl⟩ <| .cons ⟨_, _, rfl, by kernel_rfl⟩ <| .cons ⟨_, _, rfl, by kernel_rfl⟩ .nil
  have hkl : kind < kindSegs.length := by show kind < 10; omega
  obtain ⟨vk, hvk, hsk⟩ := paired_get hks (getD_some hkl [])
  obtain ⟨tk, rfl⟩ := strIs_of hsk
  refine Name_local (by walk_at "rx m") <| ItemZ (k := kind) (.inr (by walk_at "rx m")) rfl hvk (by omega) <| Store_local (by walk_at "rx u") ?_
  obtain ⟨tS, hS⟩ := nat_get iw (k := 12) (by omega)
  have lS := ws_lt h3 12
  refine Execs_cons ?_
  refine Assign_Name ?_
  refine Sub_ <| Name_local (by walk_at "rx m") <| Const_int fun u3 => ItemZ (k := 12) (.inr (by walk_at "rx m")) rfl hS (by omega) <| Store_local (by walk_at "rx u") ?_
  generalize hsp : ws.getD 12 0 = sp at hS lS
  have pick : ∀ {x y z : Str} {t u v : Tok} {css : List (List Nat)} {a b c : List Nat}, css = [a, b, c] → x = T a → y = T b → z = T c → ∃ t', [Value.str x t, .str y u, .str z v][sp]? = some (.str (T (css.getD sp [])) t') := by
    intro x y z t u v css a b c he h1 h2 h3
    subst he
    obtain ⟨w, hw, hi⟩ := paired_get (str3 (t := t) (u := u) (v := v) h1 h2 h3) (k := sp) (b := [a, b, c].getD sp []) (getD_some (by exact lS) [])
    obtain ⟨t', rfl⟩ := strIs_of hi
    exact ⟨t', hw⟩
  refine Execs_cons ?_
  refine Assign_Name ?_
  refine List_disp ?_
  refine Args_cons ?_
  refine List_disp ?_
  refine Args_cons ?_
  refine Const_str fun b0 => ?_
  refine Args_cons ?_
  refine Sub_ ?_
  refine List_disp ?_
  refine Args_cons ?_
  refine Const_str fun b1 => ?_
  refine Args_cons ?_
  refine Const_str fun b2 => ?_
  refine Args_cons ?_
  refine Const_str fun b3 => ?_
  refine Args_nil ⟨show (3 : Nat) ≤ sizeLine from by decide, fun k0 => ?_⟩
  obtain ⟨q0, e0⟩ := pick (t := b1) (u := b2) (v := b3) (css := th0) rfl (show S "[x-]" = _ from by kernel_rfl) (show S "[!sS]" = _ from by kernel_rfl) (show S "[!S-s]" = _ from by kernel_rfl)
  refine Name_local (by walk_at "rx m") <| ItemZ (k := sp) (.inr (by walk_at "rx m")) rfl e0 (by omega) ?_
  refine Args_cons ?_
  refine Sub_ ?_
  refine List_disp ?_
  refine Args_cons ?_
  refine Const_str fun b4 => ?_
  refine Args_cons ?_
  refine Const_str fun b5 => ?_
  refine Args_cons ?_
  refine Const_str fun b6 => ?_
  refine Args_nil ⟨show (3 : Nat) ≤ sizeLine from by decide, fun k1 => ?_⟩
  obtain ⟨q1, e1⟩ := pick (t := b4) (u := b5) (v := b6) (css := th1) rfl (show S "[sS]" = _ from by kernel_rfl) (show S "[!x-]" = _ from by kernel_rfl) (show S "[S-s]" = _ from by kernel_rfl)
  refine Name_local (by walk_at "rx m") <| ItemZ (k := sp) (.inr (by walk_at "rx m")) rfl e1 (by omega) ?_
  refine Args_nil ⟨show (3 : Nat) ≤ sizeLine from by decide, fun r0 => ?_⟩
  refine Args_cons ?_
  refine List_disp ?_
  refine Args_cons ?_
  refine Sub_ ?_
  refine List_disp ?_
  refine Args_cons ?_
  refine Const_str fun b7 => ?_
  refine Args_cons ?_
  refine Const_str fun b8 => ?_
  refine Args_cons ?_
  refine Const_str fun b9 => ?_
  refine Args_nil ⟨show (3 : Nat) ≤ sizeLine from by decide, fun k2 => ?_⟩
  obtain ⟨q2, e2⟩ := pick (t := b7) (u := b8) (v := b9) (css := th2) rfl (show S "[-S]" = _ from by kernel_rfl) (show S "[!xs]" = _ from by kernel_rfl) (show S "[--S]" = _ from by kernel_rfl)
  refine Name_local (by walk_at "rx m") <| ItemZ (k := sp) (.inr (by walk_at "rx m")) rfl e2 (by omega) ?_
  refine Args_cons ?_
  refine Const_str fun b10 => ?_
  refine Args_cons ?_
  refine Const_str fun b11 => ?_
  refine Args_nil ⟨show (3 : Nat) ≤ sizeLine from by decide, fun r1 => ?_⟩
  refine Args_cons ?_
  refine List_disp ?_
  refine Args_cons ?_
  refine Sub_ ?_
  refine List_disp ?_
  refine Args_cons ?_
  refine Const_str fun b12 => ?_
  refine Args_cons ?_
  refine Const_str fun b13 => ?_
  refine Args_cons ?_
  refine Const_str fun b14 => ?_
  refine Args_nil ⟨show (3 : Nat) ≤ sizeLine from by decide, fun k3 => ?_⟩
  obtain ⟨q3, e3⟩ := pick (t := b12) (u := b13) (v := b14) (css := th3) rfl (show S "[xs]" = _ from by kernel_rfl) (show S "[!-S]" = _ from by kernel_rfl) (show S "[s-x]" = _ from by kernel_rfl)
  refine Name_local (by walk_at "rx m") <| ItemZ (k := sp) (.inr (by walk_at "rx m")) rfl e3 (by omega) ?_
  refine Args_cons ?_
  refine Const_str fun b15 => ?_
  refine Args_cons ?_
  refine Const_str fun b16 => ?_
  refine Args_nil ⟨show (3 : Nat) ≤ sizeLine from by decide, fun r2 => ?_⟩
  refine Args_nil ⟨show (3 : Nat) ≤ sizeLine from by decide, fun th => Store_local (by walk_at "rx u") ?_⟩
  refine W.weak (σ' := ⟨_, [(th, listP [.ref r0, .ref r1, .ref r2]), (r2, listP _), (r1, listP _), (r0, listP _), (a, listP vs)], g⟩) ?_ rfl (by walk_at "rx s") rfl
  refine Execs_cons ?_
  refine For_ ?_
  refine Call_ty G' hr hb ?_
  refine Args_cons ?_
  refine Const_int fun u4 => ?_
  refine Args_nil ?_
  refine Range1 fun rb => ?_
  refine Iter_range (a := 0) (b := 3) (c := 1) (fun s H => H.obj (by walk_at "rx m")) (by rfl) fun J => ?_
  have hkz : (kindSegs.getD kind []).length ≤ 4 := by
    have : kind = 0 ∨ kind = 1 ∨ kind = 2 ∨ kind = 3 ∨ kind = 4 ∨ kind = 5 ∨ kind = 6 ∨ kind = 7 ∨ kind = 8 ∨ kind = 9 := by omega
    rcases this with rfl | rfl | rfl | rfl | rfl | rfl | rfl | rfl | rfl | rfl <;> decide
  have := question_loop (C := C') (g := g) (cd := cd) (I := J) (r := rb) (fa := fa) (wa := a) (th := th) (r0 := r0) (r1 := r1) (r2 := r2) (kv := .int kind u2) (K := [])
    (w0 := [.str (S "?") b0, .str (T (th0.getD sp [])) q0, .str (T (th1.getD sp [])) q1]) (w1 := [.str (T (th2.getD sp [])) q2, .str (S "-") b10, .str (S "S") b11]) (w2 := [.str (T (th3.getD sp [])) q3, .str (S "x") b15, .str (S "s") b16])
    (by rfl) (R'.less (Nat.zero_le _)) iw hlen h3 (by rw [hsp]; exact str3 (by kernel_rfl) rfl rfl) (by rw [hsp]; exact str3 rfl (by kernel_rfl) (by kernel_rfl)) (by rw [hsp]; exact str3 rfl (by kernel_rfl) (by kernel_rfl)) (sp := .int sp tS) 3 0 (kindSegs.getD kind []) tk none none rfl (by omega)
  refine WLoop.mono this ?_
  rintro f σ' ⟨rfl, tt, o1, q1, rfl⟩
  refine Execs_cons ?_
  refine Return_ ?_
  refine Tuple_disp ?_
  refine Args_cons ?_
  refine Name_local (by walk_at "rx m") ?_
  refine Args_cons ?_
  refine Sub_ ?_
  refine Name_local (by walk_at "rx m") ?_
  refine Slice_ ?_
  refine Part_none ?_
  refine Part_some ?_
  refine Const_int fun u5 => ?_
  refine Part_none fun sl => ?_
  refine SliceL (.inr (by walk_at "rx m")) (by walk_at "rx m") .none (.int 12 u5) .none (by decide) (by rw [iw.length, List.length_map]; omega) fun wl => ?_
  refine Args_cons ?_
  refine Name_local (by walk_at "rx m") ?_
  refine Args_nil ⟨show (3 : Nat) ≤ sizeLine from by decide, fun t => ?_⟩
  have hit := slice_ints_uptoW iw (y := 12) (by decide)
  refine ⟨_, List.Sublist.refl _, ?_⟩
  refine h kind ws _ t wl u2 tt _ (by omega) hlen h3 ?_ (List.Mem.head _) (List.Mem.tail _ (List.Mem.head _))
  rw [show natInts (ws.take 12) = (natInts ws).take (12 : Int).toNat from by simp [natInts, List.map_take]]
  exact hit
end
end
section
open PySem.Calls PyProof.V PySem.Spec PySem.SeqAt
open StrLaws
section
variable {prog : Program} {w : World} {A : Around} {E : Value → Shared → Prop} {s : Shared} {ma : Addr} {D : List (PyData × PyData)} {c : Nat} {Q : Value → Shared → Prop} {t : Tok}
open Builtin Builtin.Str
theorem one_turn {β : Type} (c : Nat) (init : β) (f : Nat → β → Sem (ForInStep β)) : forIn (strOf c).cps init f = (do match ← f c init with | .done b => pure b | .yield b => pure b) := rfl
theorem sub_key_lookup : isSubtype (.type "KeyError") (.type "LookupError") = pure true := by rw [isSubtype_type]; kernel_rfl
theorem sub_key_exc (x : Heap) (h' : Heap) (e : Addr) (hx : Heap.NewExc x h' e "KeyError") (s : Shared) (hs : s.heap = h') : s.TypeIs (.ref e) "KeyError" := by
  subst hs
  obtain ⟨ob, _, h1, h2, _⟩ := hx.there
  exact ⟨ob, h1, h2⟩
theorem lookup_keep {Q : Mapped → Shared → Prop} (hh : A.handled = none) (T : IntTab prog w s.heap ma D) (hl : lookup (.int c) D = none) (h : ∀ h', (∀ b o, s.heap.get? b = some o → h'.get? b = some o) → ∀ k, Q .keep { s with heap := h', toks := k }) :
    wpAny (model prog w) A (tableLookup (.ref ma) c) Q E s := by
  obtain ⟨lo, kvs, hd, hf⟩ := T
  unfold tableLookup
  refine wpAny_bind (wpAny_attempt (wpAny_bind (wpAny_mkInt ?_)))
  refine wpAny_getItem_missing_of (intKind_is prog w c _) lo hh hd.mapOf (hf.none_of_lookup same_int hl) fun h' e hx => ?_
  dsimp only
  refine wpAny_bind (wpAny_isInstance (T := "KeyError") (sub_key_exc _ _ _ hx _ rfl) sub_key_lookup ?_)
  rw [if_pos rfl]
  exact wpAny_bind (wpAny_rule (wpAny_pure (h h' hx.keeps _)))
theorem lookup_text {Q : Mapped → Shared → Prop} {x : Str} (T : IntTab prog w s.heap ma D) (hl : lookup (.int c) D = some (.str x)) (h : ∀ k, Q (.text x) { s with toks := k }) :
    wpAny (model prog w) A (tableLookup (.ref ma) c) Q E s := by
  obtain ⟨lo, kvs, hd, hf⟩ := T
  obtain ⟨v, hv, hfl⟩ := hf.of_lookup same_int hl
  obtain ⟨t, rfl⟩ := hfl.str_inv
  unfold tableLookup
  refine wpAny_bind (wpAny_attempt (wpAny_bind (wpAny_mkInt ?_)))
  refine wpAny_getItem_of (intKind_is prog w c _) hd.mapOf hv ?_
  dsimp only
  refine wpAny_bind (wpAny_pure (a := none) ?_)
  dsimp only
  refine wpAny_bind (wpAny_pure (a := some x) ?_)
  exact wpAny_pure (h _)
theorem translate_keep (hc : c < 128) (hh : A.handled = none) (T : IntTab prog w s.heap ma D) (hl : lookup (.int c) D = none) (h : ∀ h', (∀ b o, s.heap.get? b = some o → h'.get? b = some o) → ∀ t' k, Q (.str (strOf c) t') { s with heap := h', toks := k }) :
    wpAny (model prog w) A (call (.builtin "str.translate") [.str (strOf c) t, .ref ma]) Q E s := by
  refine wpAny_call (codeAny_call_builtin F.slot_str_translate.plain F.entry_str_translate (F.slot_str_translate.check _ _ _ _ _ _ _ _ (typeIs_str _ _ _) (F.args_str_translate_2 _ _) ?_))
  unfold Builtin.«str.translate»
  refine wpAny_bind (wpAny_pure (a := (Value.str (strOf c) t, strOf c, Value.ref ma)) ?_)
  dsimp only
  rw [if_neg (show ¬ (((strOf c).length == 0) = true) from Bool.false_ne_true), one_turn]
  have hfast : ((strOf c).cps.all fun x => decide (x < 128)) = true := by
    show (#[c] : Array Nat).all _ = true
    simp [hc]
  rw [hfast]
  dsimp only
  rw [if_neg (show ¬ (tooLong 0 = true) from by decide +kernel), if_pos rfl]
  dsimp only [List.lookup]
  refine wpAny_bind (wpAny_bind (wpAny_bind (lookup_keep hh T hl fun h' hk k => ?_)))
  dsimp only
  refine wpAny_bind (wpAny_pure ?_)
  dsimp only
  refine wpAny_pure (wpAny_pure ?_)
  dsimp only
  rw [if_neg (show ¬ (tooLong (0 + 1) = true) from by decide +kernel)]
  refine wpAny_bind (wpAny_mkStr (wpAny_pure (h h' hk _ _)) ?_)
  show 1 ≤ sizeLine
  decide
theorem translate_two {d : Nat} (hc : c < 128) (T : IntTab prog w s.heap ma D) (hl : lookup (.int c) D = some (.str (RxA.T [92, d]))) (h : ∀ t' k, Q (.str (RxA.T [92, d]) t') { s with toks := k }) :
    wpAny (model prog w) A (call (.builtin "str.translate") [.str (strOf c) t, .ref ma]) Q E s := by
  refine wpAny_call (codeAny_call_builtin F.slot_str_translate.plain F.entry_str_translate (F.slot_str_translate.check _ _ _ _ _ _ _ _ (typeIs_str _ _ _) (F.args_str_translate_2 _ _) ?_))
  unfold Builtin.«str.translate»
  refine wpAny_bind (wpAny_pure (a := (Value.str (strOf c) t, strOf c, Value.ref ma)) ?_)
  dsimp only
  rw [if_neg (show ¬ (((strOf c).length == 0) = true) from Bool.false_ne_true), one_turn]
  have hfast : ((strOf c).cps.all fun x => decide (x < 128)) = true := by
    show (#[c] : Array Nat).all _ = true
    simp [hc]
  rw [hfast]
  dsimp only
  rw [if_neg (show ¬ (tooLong 0 = true) from by decide +kernel), if_pos rfl]
  dsimp only [List.lookup]
  refine wpAny_bind (wpAny_bind (wpAny_bind (lookup_text T hl fun k => ?_)))
  dsimp only
  rw [if_neg (show ¬ (((RxA.T [92, d]).length == 1 && (RxA.T [92, d]).cps.all fun x => decide (x < 128)) = true) from Bool.false_ne_true)]
  refine wpAny_bind (wpAny_pure ?_)
  dsimp only
  refine wpAny_bind (wpAny_rule ?_)
  rw [if_neg Bool.false_ne_true]
  refine wpAny_bind (lookup_text T hl fun k => ?_)
  dsimp only
  refine wpAny_pure (wpAny_pure ?_)
  dsimp only
  rw [if_neg (show ¬ (tooLong (0 + (RxA.T [92, d]).length) = true) from (by show ¬ (tooLong 2 = true); decide +kernel))]
  refine wpAny_bind (wpAny_mkStr (wpAny_pure (h _ _)) ?_)
  show 2 ≤ sizeLine
  decide
end
def escOf (c : Nat) : List Nat := if c = 45 then [92, 45] else [c]
/-- the table of what is set behind a stroke -/
structure EscTab (C : Cx) (mg : Str → Option Value) : Prop where
  tab : ∃ ma D, mg (S "_special_chars_map") = some (.ref ma) ∧ IntTab C.prog C.w C.h₀ ma D ∧ lookup (.int 45) D = some (.str (T [92, 45])) ∧ ∀ c ∈ [112, 99, 100, 98, 108, 115, 114, 119, 120, 83, 116, 84], lookup (.int (c : Nat)) D = none
section
variable {C : Cx} {l : Loc} {D : Led} {g : Array GenState} {mg mb : Str → Option Value} {fa : Addr} {c : Nat} {t : Tok} {k : Nat} {Q : Value → AS → Prop}
theorem type_str_type : typeOf (.type "str") = pure (.type "type") := by rfl
theorem sub_str_str : isSubtype (.type "str") (.type "str") = pure true := by rw [isSubtype_type]; kernel_rfl
theorem Isinst_str {x : Str} (h : Q (.bool true) ⟨l, D, g⟩) : W C ⟨l, D, g⟩ (call (.builtin "isinstance") [.str x t, .type "str"]) Q := fun s E H =>
  call_isinstance_yes (typeIs_str s x t) type_str_type sub_str_str ⟨_, h, H⟩
theorem Translate_ {o e : Expr} {apos pos : Pos} (hh : C.A.handled = none) {env : Env} (ET : EscTab C mg) (hc : c ∈ [45, 112, 99, 100, 98, 108, 115, 114, 119, 120, 83, 116, 84])
    (h : W C ⟨l, D, g⟩ (eval o env) fun v σ₁ => ∃ t, v = .str (strOf c) t ∧ W C σ₁ (eval e env) fun u σ₂ => (∃ ma, mg (S "_special_chars_map") = some (.ref ma) ∧ u = .ref ma) ∧ ∀ t', Q (.str (T (escOf c)) t') σ₂)
    (hbase : attributeBase o (Str.ofString "translate") env (eval o env) = eval o env := by rfl) (hs : starEach [e] env = [(false, eval e env)] := by rfl) (hline : (apos.endLine == pos.line) = true := by kernel_rfl) :
    W C ⟨l, D, g⟩ (eval (.Call (.Attribute o (Str.ofString "translate") apos) [e] [] pos) env) Q := fun s E H => by
  obtain ⟨ma, D0, hm, hT, h45, hno⟩ := ET.tab
  refine Call_method1 hbase hs hline (wpAny_mono (h s E H) (fun v s₁ h₁ => ?_) fun _ _ x => x)
  obtain ⟨σ₁, ⟨t1, rfl, h2⟩, H₁⟩ := h₁
  refine ⟨"str", _, F.plainAttrs_str, F.slot_str_translate, F.type_str_translate, typeIs_str _ _ _, (fun _ e => nomatch e), ?_⟩
  refine Calls.callWith_builtin rfl (Calls.evalArgs_plain (Calls.spliced_cons (wpAny_mono (h2 s₁ E H₁) (fun u s₂ hu => Calls.spliced_nil ?_) fun _ _ x => x)))
  obtain ⟨σ₂, ⟨⟨ma', hm', rfl⟩, hq⟩, H₂⟩ := hu
  rw [hm] at hm'; cases hm'
  have hT2 : IntTab C.prog C.w s₂.heap ma D0 := hT.keep H₂.keep
  by_cases h0 : c = 45
  · subst h0
    exact translate_two (by decide) hT2 h45 fun t' k => ⟨σ₂, hq t', H₂.toks k⟩
  · have hc' : c ∈ [112, 99, 100, 98, 108, 115, 114, 119, 120, 83, 116, 84] := by
      rcases List.mem_cons.mp hc with rfl | hc
      · exact absurd rfl h0
      · exact hc
    have hlt : c < 128 := by
      simp only [List.mem_cons, List.not_mem_nil, or_false] at hc'
      omega
    refine translate_keep hlt hh hT2 (hno c hc') fun h' hk t' k => ⟨σ₂, ?_, H₂.keeps hk k⟩
    have := hq t'
    rw [escOf, if_neg h0] at this
    exact this
theorem EscTab.sub {C C' : Cx} {σ : AS} {env : Env} (x : EscTab C mg) (Su : Sub C C' σ env) : EscTab C' mg := by
  obtain ⟨ma, D0, hm, hT, r⟩ := x.tab
  have hp := Su.prog
  have hw := Su.w
  refine ⟨ma, D0, hm, ?_, r⟩
  rw [hp, hw]
  exact hT.keep Su.keep
set_option maxHeartbeats 1000000 in
theorem escape_call (G : Gl C.h₀ mg mb) (F : Def C.h₀ mg 27 (S "escape") fa) (hin : mg (S "isinstance") = none) (hib : mb (S "isinstance") = some (.builtin "isinstance")) (hsn : mg (S "str") = none) (hsb : mb (S "str") = some (.type "str"))
    (ET : EscTab C mg) (R : Room C.A (k + 1)) (hc : c ∈ [45, 112, 99, 100, 98, 108, 115, 114, 119, 120, 83, 116, 84]) (h : ∀ t, Q (.str (T (escOf c)) t) ⟨l, D, g⟩) : W C ⟨l, D, g⟩ (call (.ref fa) [.str (strOf c) t]) Q := by
  refine Call_plain (l' := [(S "pattern", some (.str (strOf c) t))]) (binds := [(S "pattern", .str (strOf c) t)]) G F R (fun _ _ _ => by rfl) (locs (by kernel_rfl)) (by intro p hp; cases List.mem_singleton.mp hp; kernel_rfl) (by simp) ?_
  intro C' cd Su R' G'
  dsimp only
  change W C' _ (execs (_ :: _) _) _
  refine Execs_cons ?_
  refine If_ ?_
  refine Test_plain ?_
  refine Call_bi G' hin hib ?_
  refine Args_cons ?_
  refine Name_local (by walk_at "rx m") ?_
  refine Args_cons ?_
  refine Name_builtin G' hsn hsb ?_
  refine Args_nil ?_
  refine Isinst_str ?_
  refine Truthy_bool ?_
  refine ite_t ?_
  refine Execs_cons ?_
  refine Return_ ?_
  obtain ⟨ma, D0, hm, _⟩ := ET.tab
  refine Translate_ R'.handled (ET.sub Su) hc ?_
  refine Name_local (by walk_at "rx m") ⟨t, rfl, ?_⟩
  refine Name_global G' hm ⟨⟨ma, hm, rfl⟩, fun t' => ?_⟩
  exact ⟨[], List.nil_sublist _, h t'⟩
end
end
section
open PySem.Calls PyProof.V PySem.Spec PySem.SeqAt
open StrLaws
def tabP : Obj → Prop := fun o => ∃ ps, o = PySem.W.tabObj ps ∧ TriplesOk ps.toList
/-- the def called d stands at a, its code at c -/
structure FnCd (h : Heap) (mg : Str → Option Value) (name : Str) (params : Arguments) (body : List Stmt) (scope : Scope) (a c : Addr) : Prop where
  glob : mg name = some (.ref a)
  obj : ∃ o pm doc, h.get? a = some o ∧ o.data = .func (docDef name params body scope pm (.ref c) doc) ∧ h.CodeRec (.ref c) name
theorem FnCd.keeps {h h' : Heap} {mg name params body scope a c} (f : FnCd h mg name params body scope a c) (hk : ∀ b o, h.get? b = some o → h'.get? b = some o) : FnCd h' mg name params body scope a c :=
  ⟨f.glob, let ⟨o, pm, doc, h1, h2, h3⟩ := f.obj; ⟨o, pm, doc, hk _ _ h1, h2, h3.keeps hk⟩⟩
structure SubG (C C' : Cx) (σ : AS) (P : Addr) (env : Env) : Prop where
  prog : C'.prog = C.prog
  w : C'.w = C.w
  A : C'.A = C.A.deeper env
  keep : ∀ b o, C.h₀.get? b = some o → C'.h₀.get? b = some o
  led : ∀ p ∈ σ.D, p.1 ≠ P → ∃ o, C'.h₀.get? p.1 = some o ∧ p.2 o
  hid : C'.h₀.get? P = none
theorem Call_ghost {C : Cx} {σ : AS} {mg mb : Str → Option Value} {name : Str} {params : Arguments} {body : List Stmt} {scope : Scope} {a c P : Addr} {args : List Value} {binds : List (Str × Value)} {l' : Loc} {k : Nat} {Q : Value → AS → Prop}
    (G : Gl C.h₀ mg mb) (F : FnCd C.h₀ mg name params body scope a c) (hd : PySem.W.CodeHd C.h₀ c P) (hP : (P, tabP) ∈ σ.D) (R : Room C.A (k + 1))
    (hbind : ∀ pm cd doc, bindArgs (docDef name params body scope pm cd doc) ⟨args, []⟩ = pure binds) (hloc : ∀ x ∈ binds, scope.names.lookup x.1 = some .local)
    (hl : ∀ p ∈ l', binds.reverse.lookup p.1 = p.2) (hnd : (l'.map (·.1)).Nodup)
    (h : ∀ C' : Cx, SubG C C' σ P (envOf name scope C'.L a (.ref c)) → Room C'.A k → Gl C'.h₀ mg mb → PySem.W.CodeHd C'.h₀ c P →
      W C' ⟨l', [(P, tabP)], σ.g⟩ (execs body (envOf name scope C'.L a (.ref c))) fun f σ' => ∃ D' D'', D''.Sublist σ'.D ∧ ((P, tabP) :: D').Perm D'' ∧ Q (retVal f) ⟨σ.l, D' ++ σ.D, σ'.g⟩)
    (hco : scope.isCoroutine = false := by kernel_rfl) (hgen : scope.isGenerator = false := by kernel_rfl) (hk : scope.kind = .function := by kernel_rfl)
    (hcell : ∀ x ∈ scope.names, x.2 ≠ .cell := by decide +kernel) :
    W C σ (call (.ref a) args) Q := fun s E H => by
  obtain ⟨o, pm, doc, h1, h2, h3⟩ := F.obj
  have hPn := (H.led _ hP).2
  obtain ⟨oP, hoP, hoP2⟩ := (H.led _ hP).1
  have ne : ∀ {b o}, C.h₀.get? b = some o → b ≠ P := fun e q => by rw [q, hPn] at e; cases e
  refine wpAny_call (call_plain_ret (params := params) R.lt (H.keep _ _ h1) h2 (G.keeps H.keep).nolimit (h3.keeps H.keep) (hbind pm (.ref c) doc) hloc (fun h₁ F₁ => ?_) hco hgen hk hcell)
  let C' : Cx := ⟨C.prog, C.w, C.A.deeper (envOf name scope s.heap.objs.size a (.ref c)), hideAll s.heap [P], s.drawn, s.os, s.heap.objs.size⟩
  have gh : ∀ {b o}, s.heap.get? b = some o → b ≠ P → (hideAll s.heap [P]).get? b = some o := fun e q => hideAll_get _ e (by simpa using q)
  have kp : ∀ b o, C.h₀.get? b = some o → C'.h₀.get? b = some o := fun b o e => gh (H.keep _ _ e) (ne e)
  have hid : C'.h₀.get? P = none := hideAll_none _ (by simp)
  have sub : SubG C C' σ P (envOf name scope C'.L a (.ref c)) := ⟨rfl, rfl, rfl, kp, fun p hp q => (let ⟨o, e1, e2⟩ := (H.led p hp).1; ⟨o, gh e1 q, e2⟩), hid⟩
  have st : St C' ⟨l', [(P, tabP)], σ.g⟩ { s with heap := h₁, toks := s.toks + binds.length } := by
    refine ⟨fun b o e => F₁.keep b o (of_hideAll _ e), fun _ => ⟨⟨_, F₁.ns, hl⟩, ?_, fun p hp => ?_⟩, fun p hp => ?_, hnd, by simp, rfl, rfl, H.gens⟩
    · cases q : (hideAll s.heap [P]).get? s.heap.objs.size with
      | none => rfl
      | some o' => have := of_hideAll _ q; rw [no_size] at this; cases this
    · cases List.mem_singleton.mp hp
      exact Nat.ne_of_lt (Heap.lt_size hoP)
    · cases List.mem_singleton.mp hp
      exact ⟨⟨oP, F₁.keep _ _ hoP, hoP2⟩, hid⟩
  refine wpAny_mono (h C' sub (R.deeper _) (G.keeps kp) (hd.keeps kp) _ _ st) (fun f s' hs => ?_) fun _ _ x => x
  obtain ⟨σ', ⟨D', D'', hsub, hperm, q⟩, H'⟩ := hs
  refine ⟨_, q, ?_⟩
  have H2 : St C' ⟨σ'.l, (P, tabP) :: D', σ'.g⟩ s' := (H'.drop (σ' := ⟨σ'.l, D'', σ'.g⟩) rfl hsub rfl).perm hperm
  have nd2 := H2.ord
  rw [show (((⟨σ'.l, (P, tabP) :: D', σ'.g⟩ : AS).D).map (·.1)) = P :: D'.map (·.1) from rfl, List.nodup_cons] at nd2
  have old : ∀ {b o}, s.heap.get? b = some o → b ≠ P → s'.heap.get? b = some o := fun e q => H2.keep _ _ (gh e q)
  have fresh : ∀ p ∈ D', s.heap.get? p.1 = none := fun p hp => by
    have h1 := (H2.led p (.tail _ hp)).2
    have hne : p.1 ≠ P := fun e => nd2.1 (List.mem_map.mpr ⟨p, hp, e⟩)
    cases q : s.heap.get? p.1 with
    | none => rfl
    | some o' => have h3 : C'.h₀.get? p.1 = some o' := gh q hne
                 rw [h1] at h3; cases h3
  refine ⟨fun b o e => old (H.keep b o e) (ne e), fun hl0 => ?_, fun p hp => ?_, H.nd, ?_, H2.drawn.trans H.drawn, H2.os.trans H.os, H2.gens⟩
  · obtain ⟨⟨m, hn, hm⟩, g1, g2⟩ := H.loc hl0
    refine ⟨⟨m, hn.at' fun o e => old e (fun q => g2 _ hP q.symm), hm⟩, g1, fun p hp e => ?_⟩
    rcases List.mem_append.mp hp with hp | hp
    · have := fresh p hp
      obtain ⟨o, _, _, ho, _⟩ := hn
      rw [e, ho] at this; cases this
    · exact g2 p hp e
  · rcases List.mem_append.mp hp with hp | hp
    · refine ⟨(H2.led p (.tail _ hp)).1, ?_⟩
      cases q : C.h₀.get? p.1 with
      | none => rfl
      | some o => have := fresh p hp; rw [H.keep _ _ q] at this; cases this
    · refine ⟨?_, (H.led p hp).2⟩
      by_cases e : p.1 = P
      · have := nodup_same H.ord hp hP e
        subst this
        exact (H2.led (P, tabP) (.head _)).1
      · obtain ⟨o, e1, e2⟩ := (H.led p hp).1
        exact ⟨o, old e1 e, e2⟩
  · show ((D' ++ σ.D).map (·.1)).Nodup
    rw [List.map_append, List.nodup_append]
    refine ⟨nd2.2, H.ord, fun x hx y hy e => ?_⟩
    obtain ⟨p, hp, rfl⟩ := List.mem_map.mp hx
    obtain ⟨q, hq, rfl⟩ := List.mem_map.mp hy
    have := fresh p hp
    obtain ⟨o, g1, _⟩ := (H.led q hq).1
    rw [e, g1] at this; cases this
end
section
open PySem.Calls PyProof.V PySem.Spec PySem.SeqAt
open StrLaws PySem.W
def bmP (f : Addr) : Obj → Prop := fun o => o = { cls := .type "builtin_function_or_method", dict := none, data := .fields #[.builtin "list.append", .ref f], slots := #[] }
set_option hygiene false in
local macro_rules | `(tactic| x_close) => `(tactic| (refine hq _ _ _ (by assumption) ?_; kernel_rfl))
set_option maxHeartbeats 4000000 in
theorem bound_append {prog : Program} {w : World} {A : Around} {E : Value → Shared → Prop} {h0 : Heap} {g : Array GenState} {d : Drawn} {tk : Nat} {os : OsState} {a : Addr} {n : Nat} {t : Tok} {Q : Value → Shared → Prop}
    (ha : h0.get? a = some { cls := .type "list", dict := none, data := .seq #[] n, slots := #[] })
    (hq : ∀ b h' o, X.Mem h0 h' [] [(b, o)] → o = { cls := .type "builtin_function_or_method", dict := none, data := .fields #[.builtin "list.append", .ref a], slots := #[] } → Q (.ref b) ⟨h', g, d, tk, os⟩) :
    wpAny (model prog w) A (call (.builtin "list.__getattribute__") [.ref a, .str (Str.ofString "append") t]) Q E ⟨h0, g, d, tk, os⟩ := by
  unfold call
  x_run
theorem St.add {C : Cx} {σ : AS} {s : Shared} {h' : Heap} {b : Addr} {o : Obj} {P : Obj → Prop} (H : St C σ s) (hk : ∀ b o, s.heap.get? b = some o → h'.get? b = some o) (hb : h'.get? b = some o) (hP : P o) (new : s.heap.get? b = none) (t : Nat) :
    St C ⟨σ.l, (b, P) :: σ.D, σ.g⟩ { s with heap := h', toks := t } := by
  have hC : C.h₀.get? b = none := by
    cases q : C.h₀.get? b with
    | none => rfl
    | some o' => rw [H.keep _ _ q] at new; cases new
  refine ⟨fun b' o' e => hk _ _ (H.keep _ _ e), fun hl => ?_, fun p hp => ?_, H.nd, ?_, H.drawn, H.os, H.gens⟩
  · obtain ⟨⟨m, hn, hm⟩, h1, h2⟩ := H.loc hl
    refine ⟨⟨m, hn.keeps hk, hm⟩, h1, fun p hp => ?_⟩
    rcases List.mem_cons.mp hp with rfl | hp
    · intro e
      obtain ⟨o', _, _, ho, _⟩ := hn
      rw [← e] at ho
      rw [show s.heap.get? b = some o' from ho] at new; cases new
    · exact h2 p hp
  · rcases List.mem_cons.mp hp with rfl | hp
    · exact ⟨⟨o, hb, hP⟩, hC⟩
    · exact ⟨(let ⟨o, h1, h2⟩ := (H.led p hp).1; ⟨o, hk _ _ h1, h2⟩), (H.led p hp).2⟩
  · refine List.nodup_cons.mpr ⟨fun hm => ?_, H.ord⟩
    obtain ⟨p, hp, e⟩ := List.mem_map.mp hm
    obtain ⟨o', h1, _⟩ := (H.led p hp).1
    rw [e] at h1
    rw [h1] at new; cases new
theorem look_list_ga : typeLookup (.type "list") "__getattribute__" = pure (some (.builtin "list.__getattribute__")) := by rw [typeLookup_type, builtinLookup_eq_fast]; kernel_rfl
theorem type_ga : typeOf (.builtin "list.__getattribute__") = pure (.type "wrapper_descriptor") := by show builtinType _ = _; rw [builtinType_eq_fast]; kernel_rfl
section
variable {C : Cx} {l : Loc} {D D' : Led} {g : Array GenState} {env : Env}
theorem Attr_append {o : Expr} {pos : Pos} {Q : Value → AS → Prop} {f : Addr}
    (h : W C ⟨l, D, g⟩ (eval o env) fun v σ₁ => v = .ref f ∧ (f, listP []) ∈ σ₁.D ∧ ∀ b, Q (.ref b) ⟨σ₁.l, (b, bmP f) :: σ₁.D, σ₁.g⟩) (hbase : attributeBase o (Str.ofString "append") env (eval o env) = eval o env := by rfl) (hlt : ∀ o' r, letTemporaryGo o o' r = pure () := by intro _ _; rfl) :
    W C ⟨l, D, g⟩ (eval (.Attribute o (Str.ofString "append") pos) env) Q := fun s E H => by
  rw [arm_eval_Attribute, hbase]
  refine wpAny_bind (wpAny_mono (h s E H) (fun v s₁ h₁ => ?_) fun _ _ x => x)
  obtain ⟨σ₁, ⟨rfl, hin, hq⟩, H₁⟩ := h₁
  obtain ⟨ob, hob, n, rfl⟩ := H₁.obj hin
  refine wpAny_bind (wpAny_standAt (wpAny_bind (wpAny_holding ?_)))
  unfold getAttr
  refine wpAny_bind (wpAny_mkText ?_)
  unfold getAttrBy
  refine wpAny_holding (wpAny_bind (wpAny_typeOf (T := "list") ⟨_, hob, rfl⟩ ?_))
  refine wpAny_bind (wpAny_of_eq look_list_ga ?_)
  dsimp only
  rw [if_neg (show ¬ ((onTheHeap (Value.type "list") && Value.builtin "list.__getattribute__" == Value.builtin "object.__getattribute__") = true) from Bool.false_ne_true)]
  unfold getAttrByItsOwn
  refine wpAny_bind (m := hookBefore (.type "list")) (wpAny_pure (a := none) ?_)
  refine wpAny_bind (wpAny_attempt (wpAny_holding ?_))
  show wpAny _ _ (boundAndCalled (.builtin "list.__getattribute__") (.ref f) (.str (Str.ofString "append") s₁.toks)) _ _ _
  unfold boundAndCalled
  refine wpAny_bind ?_
  unfold bindSpecial
  refine wpAny_bind (wpAny_of_eq type_ga ?_)
  rw [if_pos (by decide)]
  refine wpAny_pure ?_
  refine bound_append (tk := s₁.toks + 1) hob fun b h' o' hm ho => ?_
  subst ho
  dsimp only
  refine wpAny_pure (wpAny_bind (wpAny_of_eq (hlt _ _) (wpAny_pure ?_)))
  have kp : ∀ b' o, s₁.heap.get? b' = some o → h'.get? b' = some o := fun b' o e => hm.keep b' o e (by simp [X.away])
  have nw := hm.nw _ (List.Mem.head _)
  refine ⟨_, hq b, H₁.add (P := bmP f) kp nw.1 rfl nw.2 _⟩
theorem sub_list_module : isSubtype (.type "list") (.type "module") = pure false := by rw [isSubtype_type]; kernel_rfl
theorem check_append {M : Model} {A : Around} {E : Value → Shared → Prop} {s : Shared} {f : Addr} {o : Obj} {x : Value} {Q : Unit → Shared → Prop} (hl : s.heap.get? f = some o) (hc : o.cls = .type "list") (hd : ∃ a n, o.data = .seq a n) (h : Q () s) : wpAny M A (checkBoundCall "list.append" ⟨[.ref f, x], []⟩) Q E s := by
  unfold checkBoundCall
  have hck : ∀ y z, (match Manifest.signature? "list.append" with | some sg => Bind.checkArgs "list.append" { sg with full := toString (Bind.lastOf "list") ++ toString "." ++ toString (Bind.lastOf "list.append") } ⟨[y, z], []⟩ | none => pure ()) = pure () := fun _ _ => by kernel_rfl
  cases hsig : Manifest.signature? "list.append" with
  | none => exact wpAny_pure h
  | some sg =>
    rw [hsig] at hck
    rw [show builtinKind "list.append" = some .method from by kernel_rfl]
    dsimp only at hck ⊢
    rw [if_neg (by decide)]
    refine wpAny_bind (wpAny_isInstance (T := "list") ⟨o, hl, hc⟩ sub_list_module ?_)
    rw [if_neg (by decide +kernel)]
    obtain ⟨a, n, hd⟩ := hd
    unfold isType
    refine wpAny_bind (wpAny_bind (AutoSeq1.wpAny_loadPart' hl ?_))
    rw [hd]
    refine wpAny_pure ?_
    rw [if_neg Bool.false_ne_true]
    refine wpAny_bind (wpAny_typeOf (T := "list") ⟨o, hl, hc⟩ ?_)
    dsimp only
    exact wpAny_of_eq (hck _ _) h
theorem call_bm {prog : Program} {w : World} {A : Around} {E : Value → Shared → Prop} {s : Shared} {b f : Addr} {o : Obj} {x : Value} {its : List Value} {n : Nat} {Q : Value → Shared → Prop} (ho : s.heap.get? b = some o) (hb : bmP f o) (hl : s.heap.get? f = some { cls := .type "list", dict := none, data := .seq its.toArray n, slots := #[] })
    (hz : its.length ≤ 1000000) (h : Q .none { s with heap := s.heap.update f (Obj.mapSeq fun xs => xs.push x) }) :
    wpAny (model prog w) A (call (.ref b) [x]) Q E s := by
  cases hb
  refine wpAny_call (codeAny_of_tree ?_)
  show wpAny _ A.in1 (callAny (.ref b) ⟨[x], []⟩) _ _ s
  simp only [callAny]
  refine wpAny_bind (wpAny_load ho ?_)
  dsimp only
  rw [if_pos (by decide)]
  show wpAny _ _ (do checkBoundCall "list.append" ⟨[.ref f, x], []⟩; again (Code.builtin "list.append" ⟨[.ref f, x], []⟩)) _ _ _
  refine wpAny_bind (check_append hl rfl ⟨_, _, rfl⟩ ?_)
  refine wpAny_pure ⟨plainId_quiet (by decide +kernel) _, codeAny_builtin F.entry_list_append ?_⟩
  rw [Around.under_plainId (id := "list.append") (by decide +kernel) _]
  exact list_append f its.toArray n x (by rw [List.size_toArray]; exact Nat.le_trans hz (by show _ ≤ 2 ^ 24; omega)) prog w A (wants Q E) s ⟨hl, h⟩
def BmAt (b f : Addr) (h : Heap) : Prop := ∃ o, h.get? b = some o ∧ bmP f o
theorem keeps_bm {M : Model} {b f : Addr} (h : Heap) (X : BmAt b f h) : ∃ k, (k = Keeper.frame ∨ k = Keeper.machine ∨ k = Keeper.boundFrame) ∧ Looks M h (keeperOf (.ref b)) k := by
  obtain ⟨o, e, rfl⟩ := X
  exact ⟨.machine, .inr (.inl rfl), (Looks.ld (part := none) e).andThen .now⟩
theorem Call_bm {e : Expr} {x : Str} {npos pos : Pos} {Q : Value → AS → Prop} {b f : Addr} (hin : (x, some (.ref b)) ∈ l) (hb0 : (b, bmP f) ∈ D)
    (h : W C ⟨l, D, g⟩ (eval e env) fun v σ₁ => ∃ its D', (b, bmP f) ∈ σ₁.D ∧ its.length ≤ 1000000 ∧ UpdD σ₁.D f (listP its) (listP (its ++ [v])) D' ∧ Q .none ⟨σ₁.l, D', σ₁.g⟩)
    (hL : env.locals = C.L := by rfl) (hk : env.scope.kind = .function := by kernel_rfl) (hl : env.kindOf x = some .local := by kernel_rfl) (hd : (x == ("__debug__" : Str)) = false := by kernel_rfl)
    (hc : eval (.Call (.Name x npos) [e] [] pos) env = (do callWith pos (← eval (.Name x npos) env) [] (backTo pos (starEach [e] env)) (backToKw pos (keywordEach [] env))) := by rfl)
    (he : starEach [e] env = (false, eval e env) :: starEach [] env := by rfl) :
    W C ⟨l, D, g⟩ (eval (.Call (.Name x npos) [e] [] pos) env) Q := fun s E H => by
  refine Call_ (Name_local hin (Q := fun v σ' => v = .ref b ∧ σ' = ⟨l, D, g⟩) ⟨rfl, rfl⟩ hL hk hl hd s E H |> fun z => wpAny_mono z (fun v s₁ h₁ => ?_) fun _ _ x => x) hc
  obtain ⟨σ₁, ⟨rfl, rfl⟩, H₁⟩ := h₁
  rw [he]
  refine PySem.W.callWith_of (P := BmAt b f) rfl keeps_bm (evalArgs_plain (Calls.spliced_cons (wpAny_mono (h s₁ E H₁) (fun v s₂ h₂ => Calls.spliced_nil ?_) fun _ _ x => x)))
  obtain ⟨σ₂, ⟨its, D', hb, hz, u, hq⟩, H₂⟩ := h₂
  obtain ⟨ob, hob, hbm⟩ := H₂.obj hb
  obtain ⟨ol, hol, n, rfl⟩ := H₂.obj u.old
  refine ⟨⟨ob, hob, hbm⟩, call_bm hob hbm hol hz ⟨_, hq, ?_⟩⟩
  refine H₂.change u (Heap.SameBut.update ..) (o' := { cls := .type "list", data := .seq (its ++ [v]).toArray (n + 1) }) ?_ ⟨_, rfl⟩ s₂.toks
  rw [Heap.get?_update_self _ hol rfl]
  show some _ = some _
  simp [Obj.mapSeq]
end
end
section
open PySem.Calls PyProof.V PySem.Spec PySem.SeqAt
open StrLaws
theorem St.ext {C : Cx} {σ : AS} {s : Shared} {P : Addr} {h' : Heap} {o' : Obj} (H : St C σ s) (hP : (P, tabP) ∈ σ.D) (hx : Heap.ExtBut P s.heap h') (ho : h'.get? P = some o') (ht : tabP o') (t : Nat) : St C σ { s with heap := h', toks := t } := by
  have hPn := (H.led _ hP).2
  refine ⟨fun b o e => hx b o (fun q => by rw [q, hPn] at e; cases e) (H.keep b o e), fun hl => ?_, fun p hp => ⟨?_, (H.led p hp).2⟩, H.nd, H.ord, H.drawn, H.os, H.gens⟩
  · obtain ⟨⟨m, hn, hm⟩, h1, h2⟩ := H.loc hl
    exact ⟨⟨m, hn.extBut hx (fun e => h2 _ hP e.symm), hm⟩, h1, h2⟩
  · by_cases e : p.1 = P
    · have := nodup_same H.ord hp hP e
      subst this
      exact ⟨o', ho, ht⟩
    · obtain ⟨o, h1, h2⟩ := (H.led p hp).1
      exact ⟨o, hx _ _ e h1, h2⟩
theorem built_keeps {h h' : Heap} {mg : Str → Option Value} {P : Addr} (x : h.BuiltinsAt mg P) (hk : ∀ b o, h.get? b = some o → h'.get? b = some o) : h'.BuiltinsAt mg P := by
  obtain ⟨bm, ob, b1, b2, b3, b4, b5, r⟩ := x
  exact ⟨bm, ob, b1, b2, b3, b4, hk _ _ b5, r⟩
section
variable {C : Cx} {l : Loc} {D : Led} {g : Array GenState} {env : Env} {mg mb : Str → Option Value} {c P : Addr}
def fnP : Obj → Prop := fun o => ∃ fd, o = { cls := .type "function", dict := none, data := .func fd, slots := #[] }
theorem Lambda_ {params : Arguments} {body : Expr} {scope : Scope} {pos : Pos} {Q : Value → AS → Prop} (G : Gl C.h₀ mg mb) (hd : PySem.W.CodeHd C.h₀ c P) (hb : C.h₀.BuiltinsAt mg P) (hP : (P, tabP) ∈ D) (h : ∀ f, Q (.ref f) ⟨l, (f, fnP) :: D, g⟩)
    (hdef : defaultsOf params env = ([], []) := by rfl) (hcl : closureFor scope env = pure [] := by rfl) (hge0 : env.globals = mainGlobals := by rfl) (hcode : env.code = .ref c := by rfl) :
    W C ⟨l, D, g⟩ (eval (.Lambda params body scope pos) env) Q := fun s E H => by
  obtain ⟨oP, hoP, ps, rfl, ht⟩ := H.obj hP
  have hPn := (H.led _ hP).2
  have hg := G.g.keeps H.keep
  have hgP : mainGlobals ≠ P := fun q => by
    obtain ⟨o, es, ep, e, hd, _⟩ := G.g
    rw [q, hPn] at e; cases e
  refine PySem.W.kla_eval hdef ?_
  cases hc : codeAmong pos ps.toList with
  | none =>
    refine PySem.W.kla_makeFunction (mg := mg) hcl hge0 hg hcode (hd.keeps H.keep) hoP ht hc hgP (built_keeps hb H.keep) fun c' ctv h' tk hx hge hlt hrec htb => ?_
    refine ⟨_, h _, ?_⟩
    have H' := H.ext hP hx htb ⟨_, rfl, ?_⟩ tk
    · exact H'.push _ ⟨_, rfl⟩
    · have : (ps ++ #[rawInt pos.line, rawInt pos.col, Value.ref c']).toList = ps.toList ++ [rawInt pos.line, rawInt pos.col, .ref c'] := by simp
      rw [this]
      exact TriplesOk_snoc _ _ _ _ ht
  | some cv =>
    refine PySem.W.kla_makeFunctionHit (mg := mg) hcl hge0 hg hcode (hd.keeps H.keep) hoP ht hc (built_keeps hb H.keep) fun ctv h' tk hk hsz => ?_
    exact ⟨_, h _, (H.keeps hk tk).push _ ⟨_, rfl⟩⟩
theorem code_tab {M : Model} {A : Around} {E : Value → Shared → Prop} {s : Shared} {ps : Array Value} {pos : Pos} {q : Str} {scope : Scope} {Q : Value → Shared → Prop} (hcode : env.code = .ref c) (hd : PySem.W.CodeHd s.heap c P) (hP : s.heap.get? P = some (PySem.W.tabObj ps)) (ht : TriplesOk ps.toList)
    (hQ : ∀ code h' tk o', Heap.ExtBut P s.heap h' → h'.get? P = some o' → tabP o' → Q code { s with heap := h', toks := tk }) : wpAny M A (genexprCode env pos q scope) Q E s := by
  obtain ⟨o, vs, file, tf, flags, tg, inF, text, tt, ho, _, hdd, _, h11, h2, h7, h9, h10, hne⟩ := hd
  unfold genexprCode codeAt
  rw [hcode, if_neg (show ¬ ((Value.ref c == Value.none) = true) from Bool.false_ne_true)]
  refine wpAny_bind (wpAny_fieldsOf ho hdd ?_)
  rw [h11]
  refine wpAny_bind (wpAny_fieldsOf hP rfl ?_)
  cases hnf : codeAmong pos ps.toList with
  | some cv => exact wpAny_pure (hQ cv s.heap s.toks _ (Heap.ExtBut.refl _ _) hP ⟨ps, rfl, ht⟩)
  | none =>
    rw [h2, h7, h9, h10]
    refine wpAny_bind (wpAny_newCode fun c' P' h' tk hk hc' hP' hcode' hrec' => ?_)
    have hop' := hk _ _ hP
    refine wpAny_bind (wpAny_updateFieldsOfTheText hop' rfl ?_)
    have hnew : Obj.mapFields (fun vs => if (codeAmong pos vs.toList).isSome = true then vs else vs ++ #[rawInt pos.line, rawInt pos.col, .ref c']) (PySem.W.tabObj ps) = PySem.W.tabObj (ps ++ #[rawInt pos.line, rawInt pos.col, .ref c']) := by
      simp [Obj.mapFields, hnf]
    have hget := Heap.get?_update_self (h := h') (fun o => Obj.mapFields (fun vs => if (codeAmong pos vs.toList).isSome = true then vs else vs ++ #[rawInt pos.line, rawInt pos.col, .ref c']) o) hop' (by rw [hnew]; rfl)
    rw [hnew] at hget
    refine wpAny_bind (wpAny_fieldsOf hget rfl ?_)
    have hl : (ps ++ #[rawInt pos.line, rawInt pos.col, Value.ref c']).toList = ps.toList ++ [rawInt pos.line, rawInt pos.col, .ref c'] := by simp
    rw [hl, codeAmong_snoc _ ht hnf]
    exact wpAny_pure (hQ _ _ _ _ (fun b o' hb e => ((Heap.SameBut.update ..).extBut b o' hb (hk b o' e))) hget ⟨_, rfl, by rw [hl]; exact TriplesOk_snoc _ _ _ _ ht⟩)
end
end
section
open PySem.Calls PyProof.V PySem.Spec PySem.SeqAt
open StrLaws
/-- strokes are struck -/
def strike (cs : List Nat) : List Nat := cs.flatMap fun c => if c = 45 then [92, 45] else [c]
structure Chunk (cs : List Nat) : Prop where
  noB : (Builtin.Str.occurrences (T cs) (Str.ofString "\\") 0 (T cs).length ((T cs).length + 1)).isEmpty = true
  rep : Txt.replace (T cs) (Str.ofString "-") (Str.ofString "\\-") = T (strike cs)
  len : cs.length ≤ 100
theorem elt_quiet {prog : Program} {w : World} {A' : Around} {E' : Value → Shared → Prop} {s₂ : Shared} {m₂ : Str → Option Value} {env : Env} {cs : List Nat} {t : Tok} {px a1 a2 q1 q2 p1 p2 p3 p4 : Pos} {k1 k2 k3 k4 : Nat} (hc : Chunk cs) (hn : s₂.heap.Ns env.locals m₂) (hm : m₂ (Str.ofString "s") = some (.str (T cs) t))
    (hk : env.scope.kind = .function) (hl : env.kindOf (Str.ofString "s") = some .local) (hl1 : (a1.endLine == q1.line) = true) (hl2 : (a2.endLine == q2.line) = true) :
    wpAny (model prog w) A' (eval (.Call (.Attribute (.Call (.Attribute (.Name (Str.ofString "s") px) (Str.ofString "replace") a1) [.Constant (.str (Str.ofString "\\")) k1 p1, .Constant (.str (Str.ofString "\\\\")) k2 p2] [] q1) (Str.ofString "replace") a2) [.Constant (.str (Str.ofString "-")) k3 p3, .Constant (.str (Str.ofString "\\-")) k4 p4] [] q2) env)
      (fun y s₃ => (∃ t', y = .str (T (strike cs)) t') ∧ Keeps s₂ s₃) E' s₂ := by
  have e0 : Txt.replace (T cs) (Str.ofString "\\") (Str.ofString "\\\\") = T cs := by unfold Txt.replace; rw [hc.noB]; simp
  have hlen := hc.len
  have b2 : (Str.ofString "\\\\").length = 2 := by kernel_rfl
  have b3 : (Str.ofString "\\-").length = 2 := by kernel_rfl
  refine eval_repl (eval_repl (wpAny_Name (wpAny_loadName_local hk hl hn hm ⟨T cs, t, rfl, fun q => absurd (hc.noB.symm.trans q) (by decide), by rw [len_T, b2]; omega, fun t1 n1 hn1 => ?_⟩) (by kernel_rfl)) (by kernel_rfl) rfl rfl hl1) (by kernel_rfl) rfl rfl hl2
  rw [e0]
  refine ⟨T cs, t1, rfl, fun _ => by show 0 < n1; omega, by rw [len_T, b3]; omega, fun t2 n2 _ => ?_⟩
  rw [hc.rep]
  exact ⟨⟨t2, rfl⟩, ⟨_, _, rfl, fun _ _ e => e⟩⟩
theorem St.moved {C : Cx} {l : Loc} {D : Led} {g : Array GenState} {s s' : Shared} {I : Addr} {PI : Obj → Prop} (H : St C ⟨l, (I, PI) :: D, g⟩ s) (hk : ∀ b o, b ≠ I → s.heap.get? b = some o → s'.heap.get? b = some o) (hd : s'.drawn = s.drawn) (ho : s'.os = s.os) : St C ⟨l, D, s'.gens⟩ s' := by
  have hI := (H.led (I, PI) (.head _)).2
  have nd := H.ord
  rw [show (((⟨l, (I, PI) :: D, g⟩ : AS).D).map (·.1)) = I :: D.map (·.1) from rfl, List.nodup_cons] at nd
  refine ⟨fun b o e => hk b o (fun q => by rw [q] at e; rw [show C.h₀.get? I = none from hI] at e; cases e) (H.keep b o e), fun hl => ?_, fun p hp => ⟨?_, (H.led p (.tail _ hp)).2⟩, H.nd, nd.2, hd.trans H.drawn, ho.trans H.os, rfl⟩
  · obtain ⟨⟨m, hn, hm⟩, h1, h2⟩ := H.loc hl
    exact ⟨⟨m, hn.at' fun o e => hk _ _ (fun q => h2 _ (.head _) q.symm) e, hm⟩, h1, fun p hp => h2 p (.tail _ hp)⟩
  · obtain ⟨o, h1, h2⟩ := (H.led p (.tail _ hp)).1
    exact ⟨o, hk _ _ (fun q => nd.1 (List.mem_map.mpr ⟨p, hp, q⟩)) h1, h2⟩
set_option maxHeartbeats 1000000 in
theorem Join_gen {C : Cx} {l : Loc} {D : Led} {g : Array GenState} {env : Env} {mg mb : Str → Option Value} {c P ch : Addr} {vs : List Value} {css : List (List Nat)} {k k1 k2 k3 k4 kc : Nat} {px pn pc apos pos gpos a1 a2 q1 q2 p1 p2 p3 p4 pt : Pos} {scope : Scope} {Q : Value → AS → Prop}
    (G : Gl C.h₀ mg mb) (hd : PySem.W.CodeHd C.h₀ c P) (hb : C.h₀.BuiltinsAt mg P) (hP : (P, tabP) ∈ D) (R : Room C.A (k + 2)) (hch : (ch, listP vs) ∈ D) (hin : (S "chunks", some (.ref ch)) ∈ l) (hv : Paired StrIs vs css) (hcs : ∀ cs ∈ css, Chunk cs) (hn : css.length ≤ 100) (hg : AllBare g)
    (h : ∀ t g', AllBare g' → Q (.str (Txt.join (S "-") (css.map fun cs => T (strike cs))) t) ⟨l, D, g'⟩)
    (hco : scope.isCoroutine = false := by kernel_rfl) (hclos : closureFor scope env = pure [] := by rfl) (hcell : ∀ y ∈ scope.names, y.2 ≠ .cell := by decide +kernel) (h0 : scope.names.lookup (".0" : Str) = some NameKind.local := by kernel_rfl)
    (hx : scope.names.lookup (Str.ofString "s") = some .local := by kernel_rfl) (hkind : scope.kind = .function := by kernel_rfl) (hge0 : env.globals = mainGlobals := by rfl) (hcode : env.code = .ref c := by rfl)
    (hL : env.locals = C.L := by rfl) (hek : env.scope.kind = .function := by kernel_rfl) (hel : env.kindOf (S "chunks") = some .local := by kernel_rfl)
    (hl1 : (a1.endLine == q1.line) = true := by kernel_rfl) (hl2 : (a2.endLine == q2.line) = true := by kernel_rfl) (hline : (apos.endLine == pos.line) = true := by kernel_rfl) :
    W C ⟨l, D, g⟩ (eval (.Call (.Attribute (.Constant (.str (Str.ofString "-")) kc pc) (Str.ofString "join") apos) [.GeneratorExp (.Call (.Attribute (.Call (.Attribute (.Name (Str.ofString "s") px) (Str.ofString "replace") a1) [.Constant (.str (Str.ofString "\\")) k1 p1, .Constant (.str (Str.ofString "\\\\")) k2 p2] [] q1) (Str.ofString "replace") a2) [.Constant (.str (Str.ofString "-")) k3 p3, .Constant (.str (Str.ofString "\\-")) k4 p4] [] q2) [⟨.Name (Str.ofString "s") pt, .Name (Str.ofString "chunks") pn, [], 0⟩] scope gpos] [] pos) env) Q := fun s E H => by
  refine Call_method1 rfl rfl hline (Calls.Constant_str ?_)
  have H0 := H.toks (s.toks + 1)
  generalize hs0 : ({ s with toks := s.toks + 1 } : Shared) = s0 at H0 ⊢
  refine ⟨"str", _, F.plainAttrs_str, F.slot_str_join, F.type_str_join, typeIs_str _ _ _, (fun _ e => nomatch e), ?_⟩
  refine Calls.callWith_builtin rfl (Calls.evalArgs_plain (Calls.spliced_cons ?_))
  refine wpAny_GeneratorExp_walksQD R.handled hco hclos hcell h0 hx hkind R.lt ?_ (fun _ => rfl)
  refine wpAny_mono (Name_local hin (Q := fun v σ' => v = .ref ch ∧ σ' = ⟨l, D, g⟩) ⟨rfl, rfl⟩ hL hek hel (by kernel_rfl) s0 E H0) (fun xv s₁ h₁ => ?_) fun _ _ x => x
  obtain ⟨σ₁, ⟨rfl, rfl⟩, H₁⟩ := h₁
  refine wpAny_mono (Iter_list (its := vs) (Q := fun v σ' => ∃ I, v = .ref I ∧ σ' = ⟨l, (I, listIterP ch 0) :: D, g⟩) (fun s H => (H.list hch).isList) (fun I => ⟨I, rfl, rfl⟩) s₁ E H₁) (fun it s₂ h₂ => ?_) fun _ _ x => x
  obtain ⟨σ₂, ⟨I, rfl, rfl⟩, H₂⟩ := h₂
  refine ⟨(G.keeps H₂.keep).nolimit, ?_⟩
  obtain ⟨oP, hoP, ps, rfl, ht⟩ := H₂.obj (List.Mem.tail _ hP)
  refine code_tab hcode (hd.keeps H₂.keep) hoP ht fun code h' tk o' hx' ho' hto' => ?_
  have H₃ := H₂.ext (List.Mem.tail _ hP) hx' ho' hto' tk
  obtain ⟨bm, ob, b1, b2, b3, b4, b5, b6, b7, b8⟩ := built_keeps hb H₃.keep
  refine wpAny_builtinsFor (hge0 ▸ (G.keeps H₃.keep).g) b1 b2 b5 b6 b7 b8 ?_
  generalize hs3 : ({ s₂ with heap := h', toks := tk } : Shared) = s₃ at H₃ ⊢
  have hIl := H₃.listIter (List.Mem.head _)
  have hcl := (H₃.list (List.Mem.tail _ hch)).isList
  have hne : ch ≠ I := by
    have nd := H₃.ord
    rw [show (((⟨l, (I, listIterP ch 0) :: D, g⟩ : AS).D).map (·.1)) = I :: D.map (·.1) from rfl, List.nodup_cons] at nd
    exact fun e => nd.1 (List.mem_map.mpr ⟨_, hch, e⟩)
  have hlen : vs.length = css.length := paired_len hv
  refine ⟨I, [I, ch], [I], vs.toArray.size, (fun i v => vs.toArray[i]? = some v), _, (fun _ => true), (fun i y => ∃ cs t, css[i]? = some cs ∧ y = .str (T (strike cs)) t), rfl, fun A' hA => Walks.list hA I ch hne vs.toArray, ⟨hIl, hcl⟩, ?_, (G.keeps H₃.keep).nolimit, ?_, ?_, ?_⟩
  · intro b hb'
    simp only [List.mem_cons, List.not_mem_nil, or_false] at hb'
    rcases hb' with rfl | rfl
    · obtain ⟨o, ho, _⟩ := hIl; exact Heap.lt_size ho
    · obtain ⟨o, ho, _⟩ := hcl; exact Heap.lt_size ho
  · intro hm
    cases List.mem_singleton.mp hm
    obtain ⟨_, hns, _⟩ := G.nolimit
    obtain ⟨o, _, _, ho, _⟩ := hns
    have := (H₃.led _ (List.Mem.head _)).2
    rw [show C.h₀.get? cStatics = some o from ho] at this; cases this
  · intro href _
    refine ⟨fun A' E' i v s₂ m₂ _ _ _ _ _ _ _ => wpAny_pure ⟨rfl, ⟨_, _, rfl, fun _ _ e => e⟩⟩, fun A' E' i v s₂ m₂ _ _ _ hPi _ hns hm _ => ?_⟩
    have hvi : vs[i]? = some v := by simpa using hPi
    have hil : i < vs.length := (List.getElem?_eq_some_iff.mp hvi).1
    have hci := List.getElem?_eq_getElem (show i < css.length by omega)
    obtain ⟨v', hv', hs'⟩ := paired_get hv hci
    rw [hvi] at hv'; cases hv'
    obtain ⟨t', rfl⟩ := strIs_of hs'
    exact wpAny_mono (elt_quiet (hcs _ (List.getElem_mem _)) hns hm hkind hx hl1 hl2) (fun y s₃ ⟨⟨t2, e⟩, hkp⟩ => ⟨⟨_, t2, hci, e⟩, hkp⟩) fun _ _ x => x
  · intro a h₅ tk5 gs hgs hlt hsz hk5 WS hG0
    refine Calls.spliced_nil ?_
    have hsz3 : ∀ b o, s₃.heap.get? b = some o → b < s₃.heap.objs.size := fun b o e => Heap.lt_size e
    have hpass : passing (fun _ => true) vs.toArray.size 0 = List.range css.length := by
      rw [List.size_toArray, hlen]; simp [passing]
    have hcssl : ∀ cs ∈ css, (strike cs).length ≤ 1000 := fun cs hc => by
      have h1 := (hcs cs hc).len
      have h2 : ∀ l : List Nat, (strike l).length ≤ 2 * l.length := fun l => by
        induction l with
        | nil => simp [strike]
        | cons x r ih =>
          have : strike (x :: r) = (if x = 45 then [92, 45] else [x]) ++ strike r := rfl
          rw [this, List.length_append, List.length_cons]
          have : (if x = 45 then [92, 45] else [x]).length ≤ 2 := by split <;> simp
          omega
      have := h2 cs
      omega
    rw [hpass] at WS
    refine SC.joinGen WS.in4_2 (fun i s st => by obtain ⟨o, _, _, ho, hc, _⟩ := st.1; exact ⟨o, ho, hc⟩) hG0 ?_ (List.Mem.head _) (fun i v hv => ?_) (fun s' lt hm hacc => ?_) ?_
    · intro b hb'
      show b < h₅.objs.size
      rw [hsz]
      rcases List.mem_cons.mp hb' with rfl | hb'
      · exact Nat.lt_succ_self _
      rcases List.mem_cons.mp hb' with rfl | hb'
      · exact Nat.lt_succ_of_lt hlt
      exact Nat.lt_succ_of_lt (Nat.lt_trans (List.mem_range.mp hb') hlt)
    · obtain ⟨_, _, cs, t, _, e⟩ := hv
      exact ⟨_, t, e⟩
    · have hl0 : lt.length = css.length := by simpa [strValues] using hacc.1
      have hl : lt.map (·.1) = css.map fun cs => T (strike cs) := by
        apply List.ext_getElem?
        intro j
        by_cases hj : j < css.length
        · have hj' : j < lt.length := by omega
          obtain ⟨i, hi, cs, t, hc, e⟩ := hacc.2 j (.str lt[j].1 lt[j].2) (by simp [strValues, List.getElem?_eq_getElem hj'])
          have hij : i = j := by
            rw [List.getElem?_range hj] at hi
            exact (Option.some.inj hi).symm
          subst hij
          injection e with e1 e2
          rw [List.getElem?_map, List.getElem?_map, List.getElem?_eq_getElem hj', hc]
          simp [e1]
        · rw [List.getElem?_eq_none (by simp; omega), List.getElem?_eq_none (by simp; omega)]
      rw [hl]
      refine ⟨join_small _ _ (by decide +kernel) ?_ (by rw [List.length_map]; omega), fun t' k => ⟨_, h t' s'.gens ?_, ?_⟩⟩
      · intro t ht
        obtain ⟨cs, hc, rfl⟩ := List.mem_map.mp ht
        rw [len_T]; exact hcssl cs hc
      · have hb3 : AllBare s₃.gens := by rw [H₃.gens]; exact hg
        exact AllBare.movedS (AllBare.push hb3 hgs) hm
      · have := St.moved (s' := s') H₃ (fun b o hbI e => hm.heap b o (by
          intro hmem
          rcases List.mem_cons.mp hmem with rfl | hmem
          · exact Nat.lt_irrefl _ (hsz3 _ _ e)
          · exact hbI (List.mem_singleton.mp hmem)) (hk5 _ _ e)) hm.drawn hm.os
        exact this.toks k
    · rw [List.length_range]; show _ ≤ 2 ^ 24; omega
end
section
open PySem.W PySem.Calls
def subList : List (List Nat) := [[63], [33, 63], [115, 83], [116, 84], [33, 115, 83], [33, 116, 84], [33, 120, 115], [33, 120, 116], [120, 115], [120, 116],
  [120, 92, 45], [33, 83, 45, 115], [33, 84, 45, 116], [33, 120, 92, 45], [83, 45, 115], [84, 45, 116], [92, 45, 83], [92, 45, 84], [92, 45, 45, 83], [92, 45, 45, 84], [33, 92, 45, 83], [33, 92, 45, 84], [115, 45, 120], [116, 45, 120]]
def patP (p : Addr) : Obj → Prop := fun o => o = { cls := .type "re.Pattern", dict := none, data := .fields #[.str (Str.ofString "([&~|])") 368, .int 32 403, .int 1 0, .none, .none, .ref p, .int 0 0], slots := #[] }
def codeP : Obj → Prop := fun o => o = { cls := .type "tuple", dict := none, data := .seq #[.int 14 0, .int 14 0, .int 4 0, .int 1 0, .int 1 0, .int 9 0, .int 0 0, .int 64 0, .int 0 0, .int 1342177280 0, .int 0 0, .int 0 0, .int 0 0, .int 0 0, .int 0 0, .int 17 0, .int 0 0, .int 13 0, .int 11 0, .int 9 0, .int 0 0, .int 64 0, .int 0 0, .int 1342177280 0, .int 0 0, .int 0 0, .int 0 0, .int 0 0, .int 0 0, .int 17 0, .int 1 0, .int 1 0] 0, slots := #[] }
set_option hygiene false in
local macro_rules | `(tactic| x_close) => `(tactic| (refine hq _ _ _ _ _ (by assumption) ?_; kernel_rfl))
set_option maxHeartbeats 8000000 in
theorem sub_run {prog : Program} {w : World} {A : Around} {E : Value → Shared → Prop} {h0 : Heap} {g : Array GenState} {d : Drawn} {tk : Nat} {os : OsState} {a f p : Addr} {t : Tok} {oa oc of : Obj} {cs : List Nat} {Q : Value → Shared → Prop} (hcs : cs ∈ subList)
    (ha : h0.get? a = some oa) (hoa : patP p oa) (hc : h0.get? p = some oc) (hoc : codeP oc) (hf : h0.get? f = some of) (hof : fnP of)
    (hq : ∀ x t' h' tk' news, X.Mem h0 h' [] news → x = T cs → Q (.str x t') ⟨h', g, d, tk', os⟩) :
    wpAny (model prog w) A (call (.builtin "re.Pattern.sub") [.ref a, .ref f, .str (T cs) t]) Q E ⟨h0, g, d, tk, os⟩ := by
  unfold call
  cases hoa
  cases hoc
  obtain ⟨fd, rfl⟩ := hof
  simp only [subList, List.mem_cons, List.not_mem_nil, or_false] at hcs
  rcases hcs with rfl | rfl | rfl | rfl | rfl | rfl | rfl | rfl | rfl | rfl | rfl | rfl | rfl | rfl | rfl | rfl | rfl | rfl | rfl | rfl | rfl | rfl | rfl | rfl <;> x_run
section
variable {C : Cx} {l : Loc} {D : Led} {g : Array GenState} {env : Env} {mg mb : Str → Option Value} {a f p : Addr} {cs : List Nat} {t : Tok}
/-- the pattern's sub, nothing to replace -/
theorem Sub_call {Q : Value → AS → Prop} (ka : Kn C D a (patP p)) (kc : Kn C D p codeP) (kf : Kn C D f fnP) (hcs : cs ∈ subList) (h : ∀ t, Q (.str (T cs) t) ⟨l, D, g⟩) : W C ⟨l, D, g⟩ (call (.builtin "re.Pattern.sub") [.ref a, .ref f, .str (T cs) t]) Q := fun s E H => by
  obtain ⟨oa, ha, hoa⟩ := ka.obj H
  obtain ⟨oc, hc, hoc⟩ := kc.obj H
  obtain ⟨of, hf, hof⟩ := kf.obj H
  obtain ⟨h0, gg, d, tk, os⟩ := s
  refine sub_run hcs ha hoa hc hoc hf hof fun x t' h' tk' news hm hx => ?_
  subst hx
  exact ⟨_, h t', H.keeps (fun b o e => hm.keep b o e (by simp [X.away])) tk'⟩
end
end
section
open PySem.Calls PyProof.V PySem.Spec PySem.SeqAt
open StrLaws Builtin Builtin.Str
theorem gives_find4 (x y : Str) (i j : Int) (t u v z : Tok) : Gives («str.find» ⟨[.str x t, .str y u, .int i v, .int j z], []⟩) (.int (match occurrences x y (fromIndex x.length i) (min (fromIndex x.length j) x.length) 1 with | k :: _ => (k : Int) | [] => -1)) := by
  show Gives (match occurrences x y (fromIndex x.length i) (min (fromIndex x.length j) x.length) 1 with | k :: _ => retInt k | [] => (do rule "str.find.not-found"; retInt (-1))) _
  cases occurrences x y (fromIndex x.length i) (min (fromIndex x.length j) x.length) 1 with
  | nil => exact .rule (.of_eq rfl)
  | cons k _ => exact .of_eq rfl
section
variable {C : Cx} {l : Loc} {D D' : Led} {g : Array GenState} {env : Env}
theorem NotIn_ch {c : Nat} {cs : List Nat} {y : Str} {t u : Tok} {Q : Value → AS → Prop} (h : Q (.bool (!decide (c ∈ cs))) ⟨l, D, g⟩) (hy : y = strOf c := by kernel_rfl) : W C ⟨l, D, g⟩ (compareOp .NotIn (.str y u) (.str (T cs) t)) Q := fun s E H => by
  subst hy
  refine notIn_str ?_
  rw [show strOf c = ⟨#[c]⟩ from rfl, found_one]
  exact ⟨_, by simpa using h, H⟩
theorem Test_not {x : Expr} {pos : Pos} {whole : Sem Value} {Q : Bool → AS → Prop} (h : W C ⟨l, D, g⟩ (isTrue x env (eval x env)) fun c σ => Q (!c) σ) : W C ⟨l, D, g⟩ (isTrue (.UnaryOp .Not x pos) env whole) Q := fun s E H =>
  isTrue_not (wpAny_mono (h s E H) (fun c s' ⟨σ', q, H'⟩ => ⟨σ', q, H'⟩) fun _ _ x => x)
end
def findV (x y : Str) (lo hi : Nat) : Int := match occurrences x y lo hi 1 with | k :: _ => (k : Int) | [] => -1
theorem at_one {cs : List Nat} {c i hi : Nat} (hhi : hi ≤ cs.length) : At (T cs) (strOf c) hi i ↔ i < hi ∧ cs[i]? = some c := by
  have h : i + 1 ≤ (T cs).length ∧ subAt (T cs) (strOf c) i = true ↔ (T cs).cps.toList[i]? = some c := subAt_one (T cs) c i
  have hl : (strOf c).length = 1 := rfl
  rw [len_T] at h
  unfold At
  rw [hl]
  constructor
  · rintro ⟨h1, h2⟩
    exact ⟨by omega, by simpa using h.mp ⟨by omega, h2⟩⟩
  · rintro ⟨h1, h2⟩
    exact ⟨by omega, (h.mpr (by simpa using h2)).2⟩
theorem find_none {cs : List Nat} {c lo hi : Nat} (hhi : hi ≤ cs.length) (h : ∀ i, lo ≤ i → i < hi → cs[i]? ≠ some c) : findV (T cs) (strOf c) lo hi = -1 := by
  unfold findV
  rw [occ_eq]
  rcases occ_first (T cs) (strOf c) hi 1 (by omega) (List.range' lo (hi + 1 - lo)) lo (fun i hi' => (List.mem_range'_1.mp hi').1) with ⟨h0, _⟩ | ⟨pre, a, post, e, h0, ha, _⟩
  · rw [h0]
  · exfalso
    have hm : a ∈ List.range' lo (hi + 1 - lo) := by rw [e]; simp
    have := (at_one hhi).mp ha
    exact h a (List.mem_range'_1.mp hm).1 this.1 this.2
theorem find_here {cs : List Nat} {c lo hi : Nat} (hhi : hi ≤ cs.length) (hlo : lo < hi) (h : cs[lo]? = some c) : findV (T cs) (strOf c) lo hi = lo := by
  unfold findV
  rw [occ_eq]
  have hAt : At (T cs) (strOf c) hi lo := (at_one hhi).mpr ⟨hlo, h⟩
  rcases occ_first (T cs) (strOf c) hi 1 (by omega) (List.range' lo (hi + 1 - lo)) lo (fun i hi' => (List.mem_range'_1.mp hi').1) with ⟨_, hn⟩ | ⟨pre, a, post, e, h0, _, hn⟩
  · exact absurd hAt (hn lo (List.mem_range'_1.mpr ⟨Nat.le_refl _, by omega⟩))
  · have hpre : pre = [] := by
      cases pre with
      | nil => rfl
      | cons p r =>
        exfalso
        have h1 : (List.range' lo (hi + 1 - lo))[0]? = some p := by rw [e]; rfl
        rw [List.getElem?_range' (by omega)] at h1
        have : p = lo := by simpa using h1.symm
        exact hn p (List.mem_cons_self ..) (this ▸ hAt)
    subst hpre
    have h1 : (List.range' lo (hi + 1 - lo))[0]? = some a := by rw [e]; rfl
    rw [List.getElem?_range' (by omega)] at h1
    have ha : a = lo := by simpa using h1.symm
    subst ha
    generalize (forIn (List.range' a (hi + 1 - a)) ((#[] : Array Nat), a) (occBody (T cs) (strOf c) hi 1)).run.fst = arr at h0
    obtain ⟨l⟩ := arr
    cases l with
    | nil => simp at h0
    | cons x r => simp at h0; subst h0; rfl
section
variable {C : Cx} {l : Loc} {D D' : Led} {g : Array GenState} {env : Env}
/-- a method of a text, any number of arguments -/
theorem Meth_str {o : PySem.Expr} {name : Str} {id : String} {apos pos : Pos} {e : PySem.Expr} {rest : List PySem.Expr} {Q : Value → AS → Prop} (slot : Slot "str" name id) (hty : typeOf (.builtin id) = pure (.type "method_descriptor"))
    (h : W C ⟨l, D, g⟩ (eval o env) fun v σ₁ => ∃ x t, v = .str x t ∧ W C σ₁ (spliced (backTo pos (starEach (e :: rest) env))) fun vs σ₂ => W C σ₂ (call (.builtin id) (.str x t :: vs)) Q)
    (hbase : attributeBase o name env (eval o env) = eval o env := by rfl)
    (hfew : ((backTo pos (starEach (e :: rest) env)).all (fun x => !x.1) && (backToKw pos (keywordEach [] env)).all (fun x => x.1.isSome) && decide ((e :: rest).length + ([] : List Keyword).length + (if ([] : List Keyword).isEmpty then 0 else 1) < 30)) = true := by rfl)
    (hp : (backTo pos (starEach rest env)).any (·.1) = false := by rfl) (he : starEach (e :: rest) env = (false, eval e env) :: starEach rest env := by rfl) (hline : (apos.endLine == pos.line) = true := by kernel_rfl) :
    W C ⟨l, D, g⟩ (eval (.Call (.Attribute o name apos) (e :: rest) [] pos) env) Q := fun s E H => by
  refine wpAny_Call_method_lateS hbase hfew hline (wpAny_mono (h s E H) (fun v s₁ h₁ => ?_) fun _ _ x => x)
  obtain ⟨σ₁, ⟨x, t, rfl, h2⟩, H₁⟩ := h₁
  refine ⟨"str", id, F.plainAttrs_str, slot, hty, typeIs_str _ _ _, (fun _ e => nomatch e), ?_⟩
  have h3 := wpAny_mono (h2 s₁ E H₁) (fun vs s₂ ⟨σ₂, q, H₂⟩ => q s₂ E H₂) fun _ _ x => x
  rw [he] at h3 ⊢
  exact Calls.callWith_builtin (by show (false || (backTo pos (starEach rest env)).any (·.1)) = false; rw [hp]; rfl) (Calls.evalArgs_plain h3)
theorem Find_call {cs : List Nat} {y : Str} {c i j : Nat} {t u v z : Tok} {Q : Value → AS → Prop} (hj : j ≤ cs.length) (h : ∀ t, Q (.int (findV (T cs) (strOf c) i j) t) ⟨l, D, g⟩) (hy : y = strOf c := by kernel_rfl) :
    W C ⟨l, D, g⟩ (call (.builtin "str.find") [.str (T cs) t, .str y u, .int i v, .int j z]) Q := fun s E H => by
  subst hy
  refine call_gives F.slot_str_find (typeIs_str _ _ _) F.entry_str_find (F.args_str_find_4 _ _ _ _) (gives_find4 (T cs) (strOf c) i j t u v z) ?_
  have e1 : fromIndex (T cs).length (i : Int) = i := by unfold fromIndex; rw [if_neg (by omega)]; omega
  have e2 : min (fromIndex (T cs).length (j : Int)) (T cs).length = j := by unfold fromIndex; rw [if_neg (by omega), len_T]; omega
  rw [e1, e2]
  exact ⟨_, h _, H.toks _⟩
end
end
section
open PySem.Calls PyProof.V PySem.Spec PySem.SeqAt
theorem slot_pat_sub : Slot "re.Pattern" "sub" "re.Pattern.sub" :=
  .of (owner := "re.Pattern") (n := "sub") (by rw [typeLookup_type, builtinLookup_eq_fast]; kernel_rfl) (by decide +kernel) (by decide +kernel) (by decide +kernel)
    (by first | exact .inl (by decide +kernel) | exact .inr (by decide +kernel)) (by rw [isSubtype_type]; kernel_rfl)
theorem type_pat_sub : typeOf (.builtin "re.Pattern.sub") = pure (.type "method_descriptor") := by show builtinType _ = _; rw [builtinType_eq_fast]; kernel_rfl
theorem plain_pat : PlainAttrs "re.Pattern" :=
  ⟨⟨"object.__getattribute__", by rw [typeLookup_type, builtinLookup_eq_fast]; kernel_rfl, by decide +kernel⟩, by rw [typeLookup_type, builtinLookup_eq_fast]; kernel_rfl⟩
section
variable {C : Cx} {l : Loc} {D D' : Led} {g : Array GenState} {env : Env}
/-- the pattern's method sub -/
theorem Meth_sub {o : PySem.Expr} {apos pos : Pos} {e : PySem.Expr} {rest : List PySem.Expr} {Q : Value → AS → Prop} {a p : Addr}
    (h : W C ⟨l, D, g⟩ (eval o env) fun v σ₁ => v = .ref a ∧ Kn C σ₁.D a (patP p) ∧ W C σ₁ (spliced (backTo pos (starEach (e :: rest) env))) fun vs σ₂ => W C σ₂ (call (.builtin "re.Pattern.sub") (.ref a :: vs)) Q)
    (hbase : attributeBase o (Str.ofString "sub") env (eval o env) = eval o env := by rfl)
    (hfew : ((backTo pos (starEach (e :: rest) env)).all (fun x => !x.1) && (backToKw pos (keywordEach [] env)).all (fun x => x.1.isSome) && decide ((e :: rest).length + ([] : List Keyword).length + (if ([] : List Keyword).isEmpty then 0 else 1) < 30)) = true := by rfl)
    (hp : (backTo pos (starEach rest env)).any (·.1) = false := by rfl) (he : starEach (e :: rest) env = (false, eval e env) :: starEach rest env := by rfl) (hline : (apos.endLine == pos.line) = true := by kernel_rfl) :
    W C ⟨l, D, g⟩ (eval (.Call (.Attribute o (Str.ofString "sub") apos) (e :: rest) [] pos) env) Q := fun s E H => by
  refine wpAny_Call_method_lateS hbase hfew hline (wpAny_mono (h s E H) (fun v s₁ h₁ => ?_) fun _ _ x => x)
  obtain ⟨σ₁, ⟨rfl, hk, h2⟩, H₁⟩ := h₁
  obtain ⟨ob, hob, hpt⟩ := hk.obj (l := σ₁.l) (g := σ₁.g) H₁
  cases hpt
  refine ⟨"re.Pattern", _, plain_pat, slot_pat_sub, type_pat_sub, ⟨_, hob, rfl⟩, (fun b e => by cases e; exact ⟨_, hob, rfl⟩), ?_⟩
  have h3 := wpAny_mono (h2 s₁ E H₁) (fun vs s₂ ⟨σ₂, q, H₂⟩ => q s₂ E H₂) fun _ _ x => x
  rw [he] at h3 ⊢
  exact Calls.callWith_builtin (by show (false || (backTo pos (starEach rest env)).any (·.1)) = false; rw [hp]; rfl) (Calls.evalArgs_plain h3)
end
end
section
open PySem.Calls PyProof.V PySem.Spec PySem.SeqAt
open StrLaws
section
variable {C : Cx} {l : Loc} {D D' : Led} {g : Array GenState} {env : Env}
theorem append_T (a b : List Nat) : T a ++ T b = T (a ++ b) := by apply Str.ext'; show (T a).cps ++ (T b).cps = _; simp
/-- f'[{name}]' -/
theorem FStr_ {x : Str} {cs : List Nat} {t : Tok} {k1 k2 : Nat} {p1 p2 p3 p4 pos : Pos} {Q : Value → AS → Prop} (hin : (x, some (.str (T cs) t)) ∈ l) (hz : cs.length ≤ 1000) (h : ∀ t, Q (.str (T (91 :: cs ++ [93])) t) ⟨l, D, g⟩)
    (hL : env.locals = C.L := by rfl) (hk : env.scope.kind = .function := by rfl) (hl : env.kindOf x = some .local := by kernel_rfl) (hd : (x == ("__debug__" : Str)) = false := by kernel_rfl) :
    W C ⟨l, D, g⟩ (eval (.JoinedStr [.Constant (.str (Str.ofString "[")) k1 p1, .FormattedValue (.Name x p2) (-1) none p3, .Constant (.str (Str.ofString "]")) k2 p4] pos) env) Q := fun s E H => by
  obtain ⟨⟨m, hn, hm⟩, _⟩ := H.loc (List.ne_nil_of_mem hin)
  have b1 : Str.ofString "[" = T [91] := by kernel_rfl
  have b2 : Str.ofString "]" = T [93] := by kernel_rfl
  have b0 : Str.empty = T [] := rfl
  have e1 : Str.empty ++ Str.ofString "[" = T [91] := by rw [b0, b1, append_T]; rfl
  have e2 : T [91] ++ T cs = T (91 :: cs) := by rw [append_T]; rfl
  have e3 : T (91 :: cs) ++ Str.ofString "]" = T (91 :: cs ++ [93]) := by rw [b2, append_T]
  refine wpAny_JoinedStr ?_
  refine Calls.Constant_str ⟨_, _, rfl, by rw [e1, len_T]; decide, ?_⟩
  rw [e1]
  refine wpAny_FormattedValue_plain (wpAny_Name (wpAny_loadName_local hk hl (hL ▸ hn) (hm _ hin) ?_) hd)
  have fin : ∀ (t' : Tok) (k : Nat), ∃ y t, Value.str (T cs) t' = .str y t ∧ (T [91] ++ y).length ≤ sizeLine ∧ Joins (model C.prog C.w) C.A E (evalEach [.Constant (.str (Str.ofString "]")) k2 p4] env) (T [91] ++ y) (fun out s₁ => out.length ≤ sizeLine ∧ ∃ σ', Q (.str out s₁.toks) σ' ∧ St C σ' { s₁ with toks := s₁.toks + 1 }) { s with toks := k } := fun t' k => by
    refine ⟨T cs, t', rfl, by rw [e2, len_T]; simp; show _ ≤ 2 ^ 24; omega, ?_⟩
    rw [e2]
    refine Calls.Constant_str ⟨_, _, rfl, by rw [e3, len_T]; simp; show _ ≤ 2 ^ 24; omega, ?_⟩
    rw [e3]
    exact ⟨by rw [len_T]; simp; show _ ≤ 2 ^ 24; omega, _, h _, H.toks _⟩
  exact wpAny_formatField_str (fin t _) (fin _ _) (by rw [len_T]; show _ ≤ 2 ^ 24; omega)
theorem In_tup2 {a : Addr} {c x y : Nat} {t u v : Tok} {X Y : Str} {Q : Value → AS → Prop} (k : Kn C D a (tupP [.str X t, .str Y u])) (hc : c < 128) (hx : x < 128) (hy : y < 128) (hu : C.A.units ≤ 9000) (h : Q (.bool (x == c || y == c)) ⟨l, D, g⟩) (hX : X = strOf x := by kernel_rfl) (hY : Y = strOf y := by kernel_rfl) :
    W C ⟨l, D, g⟩ (compareOp .In (.str (strOf c) v) (.ref a)) Q := fun s E H => by
  subst hX hY
  obtain ⟨o, ho, h1, n, h2⟩ := k.obj H
  have ok : ∀ {z : Nat}, z < 128 → PyData.canLay0 (.str (strOf z)) = true := fun {z} hz => by
    simp only [PyData.canLay0]
    show (#[z] : Array Nat).all (· < 0x110000) = true
    simp; omega
  refine in_tuple_reads (xs := [.str (strOf x), .str (strOf y)]) (Reads.tuple ho h1 h2 (.cons (.str _ _) (.cons (.str _ _) .nil))) (Reads.str _ _) ?_ (ok hc) ?_ ?_
  · simp only [PyData.canLayAll0, ok hx, ok hy]; rfl
  · have : PyData.depth (.str (strOf c)) = 0 := by simp [PyData.depth]
    rw [this]; show _ < 9900; omega
  · have e : ∀ z : Nat, PyData.eqv (.str (strOf z)) (.str (strOf c)) = (z == c) := fun z => by
      have : PyData.eqv (.str (strOf z)) (.str (strOf c)) = (strOf z == strOf c) := by simp [PyData.eqv]
      rw [this]
      exact (T_beq [z] [c]).trans (by simp)
    simp only [List.any_cons, List.any_nil, Bool.or_false, e]
    exact ⟨_, h, H⟩
end
end
section
open PySem.Calls PyProof.V PySem.Spec PySem.SeqAt
open StrLaws
section
variable {C : Cx} {l : Loc} {D D' : Led} {g : Array GenState} {env : Env}
theorem Gt_ch {a b : Nat} {t u : Tok} {Q : Value → AS → Prop} (h : Q (.bool (decide (b < a))) ⟨l, D, g⟩) : W C ⟨l, D, g⟩ (compareOp .Gt (.str (strOf a) t) (.str (strOf b) u)) Q := fun s E H => by
  refine PySem.P.gt_str ?_
  have e : decide ((strOf b).cps.toList < (strOf a).cps.toList) = decide (b < a) := by
    show decide ([b] < [a]) = _
    by_cases h : b < a
    · simp [h, List.cons_lt_cons_iff]
    · simp [h, List.cons_lt_cons_iff]
  rw [e]
  exact ⟨_, h, H⟩
def trS (n : Nat) : Stmt := (bodyAt 29).getD n noStmt
theorem Assert_ {test : PySem.Expr} {pos : Pos} {Q : Flow → AS → Prop} (hh : C.A.handled = none) (h : W C ⟨l, D, g⟩ (isTrue test env (eval test env)) fun b σ => b = true ∧ Q .next σ) : W C ⟨l, D, g⟩ (exec (.Assert test none pos) env) Q := fun s E H =>
  wpAny_Assert_new hh (wpAny_mono (h s E H) (fun b s₁ ⟨σ₁, ⟨e, q⟩, H₁⟩ => by subst e; exact ⟨σ₁, q, H₁⟩) fun _ _ x => x)
end
end
section
open PySem.Calls PyProof.V PySem.Spec PySem.SeqAt
open StrLaws
section
variable {C : Cx} {l : Loc} {D D' : Led} {g : Array GenState} {env : Env}
/-- x, y = (a, b) in a def: y is stored first -/
theorem Assign_swap2 {x y : Str} {px py tpos : Pos} {kk : Nat} {value : PySem.Expr} {pos : Pos} {Q : Flow → AS → Prop} (hh : C.A.handled = none)
    (h : W C ⟨l, D, g⟩ (eval value env) fun v σ₁ => ∃ t a b, v = .ref t ∧ (∀ s, St C σ₁ s → s.heap.IsTuple t #[a, b]) ∧ ∃ l1 l2, Upd σ₁.l y b l1 ∧ Upd l1 x a l2 ∧ Q .next ⟨l2, σ₁.D, σ₁.g⟩)
    (hs : swapsWithSole [.Tuple [.Name x px, .Name y py] kk tpos] value pos.line env = pure false := by rfl) (hw : swappedStores [.Tuple [.Name x px, .Name y py] kk tpos] value env = pure (some [x, y]) := by rfl)
    (hL : env.locals = C.L := by rfl) (hk : env.scope.kind = .function := by kernel_rfl) (hl1 : env.kindOf x = some .local := by kernel_rfl) (hl2 : env.kindOf y = some .local := by kernel_rfl) :
    W C ⟨l, D, g⟩ (exec (.Assign [.Tuple [.Name x px, .Name y py] kk tpos] value pos) env) Q := fun s E H => by
  refine Assign_Tuple_swapped (wpAny_mono (h s E H) (fun v s₁ h₁ => ?_) fun _ _ x => x) hs hw
  obtain ⟨σ₁, ⟨t, a, b, rfl, ht, l1, l2, u1, u2, hq⟩, H₁⟩ := h₁
  have e2 : ([x, y] : List Str).length = (#[a, b] : Array Value).size := rfl
  rw [e2]
  refine wpAny_unpackItems_tuple hh (ht _ H₁) fun h' he => ?_
  have H' : St C σ₁ { s₁ with heap := h', toks := s₁.toks } := H₁.keeps (fun b o eb => he b o (Nat.ne_of_lt (Heap.lt_size eb)) eb) _
  show wpAny _ _ (assignInOrder [fun v => bindName env y v, fun v => bindName env x v] [b, a]) _ _ _
  refine wpAny_assignInOrder_more (wpAny_bindName (wpAny_mono (W.run (Store_local (l := σ₁.l) (D := σ₁.D) (g := σ₁.g) u1 (Q := fun _ σ' => σ' = ⟨l1, σ₁.D, σ₁.g⟩) rfl hL hk hl2) H') (fun _ s₂ h₂ => ?_) fun _ _ x => x))
  obtain ⟨_, rfl, H₂⟩ := h₂
  refine wpAny_assignInOrder_more (wpAny_bindName (wpAny_mono (W.run (Store_local u2 (Q := fun _ σ' => σ' = ⟨l2, σ₁.D, σ₁.g⟩) rfl hL hk hl1) H₂) (fun _ s₃ h₃ => ?_) fun _ _ x => x))
  obtain ⟨_, rfl, H₃⟩ := h₃
  exact wpAny_assignInOrder_none ⟨_, hq, H₃⟩
end
end
section
open PySem.Calls PyProof.V PySem.Spec PySem.SeqAt
open StrLaws
theorem set_last {prog : Program} {w : World} {A : Around} {E : Value → Shared → Prop} {s : Shared} {l : Addr} {its : List Value} {x v : Value} {n : Nat} {t : Tok} {Q : Unit → Shared → Prop} (ho : s.heap.get? l = some { cls := .type "list", dict := none, data := .seq (its ++ [x]).toArray n, slots := #[] })
    (hQ : ∀ h' n', Heap.SameBut l s.heap h' → h'.get? l = some { cls := .type "list", dict := none, data := .seq (its ++ [v]).toArray n', slots := #[] } → Q () { s with heap := h' }) :
    wpAny (model prog w) A (setItem (.ref l) (.int (-1) t) v) Q E s := by
  have hT : s.TypeIs (.ref l) "list" := ⟨_, ho, rfl⟩
  unfold setItem
  try with_reducible refine wpAny_holding ?_
  first | refine wpAny_bind (wpAny_pure ?_) | skip
  refine wpAny_bind (wpAny_sequenceKey hT (by decide) ?_)
  refine wpAny_bind (wpAny_callSpecial?_slot (name := Str.ofString "__setitem__") hT slot_list_setitem
    (wpAny_call_entry slot_list_setitem hT entry_list_setitem ?_ (args_list_setitem _ _ _)))
  show wpAny _ _ (Builtin.List.listSubscript? (.int (-1) t) >>= _) _ _ s
  refine wpAny_bind (wpAny_listSubscript_int (fitsIndex_neg (by decide) (by decide)) ?_)
  have hsz : (its ++ [x]).toArray.size = its.length + 1 := by simp
  have hidx : seqIndex? (-1) (its ++ [x]).toArray.size = some its.length := by
    rw [PySem.seqIndex_neg (by decide) (by rw [hsz]; omega), hsz]; congr 1; omega
  show wpAny _ _ ((Builtin.List.listItems (.ref l) >>= fun xs => pure ((seqIndex? (-1) xs.size).bind fun i => xs[i]?.map (i, ·))) >>= _) _ _ s
  refine wpAny_bind (wpAny_bind ?_)
  show wpAny _ _ (seqItems? (.ref l) >>= _) _ _ s
  refine wpAny_bind (wpAny_seqItems ho rfl (wpAny_pure (wpAny_pure ?_)))
  rw [hidx]
  have hx : (its ++ [x]).toArray[its.length]? = some x := by simp
  simp only [Option.bind_some, hx, Option.map_some]
  show wpAny _ _ (setSeqItemAt l its.length v >>= _) _ _ s
  have fin : ∀ {n'}, (s.heap.update l (Obj.mapSeq (·.setIfInBounds its.length v))).get? l = some { cls := .type "list", dict := none, data := .seq (its ++ [v]).toArray n', slots := #[] } → Q () { s with heap := s.heap.update l (Obj.mapSeq (·.setIfInBounds its.length v)) } := fun h => hQ _ _ (Heap.SameBut.update ..) h
  have hget : (s.heap.update l (Obj.mapSeq (·.setIfInBounds its.length v))).get? l = some { cls := .type "list", dict := none, data := .seq (its ++ [v]).toArray n, slots := #[] } := by
    rw [Heap.get?_update_self _ ho rfl]
    simp [Obj.mapSeq]
  refine wpAny_bind (wpAny_setSeqItemAt ho rfl ?_)
  first
    | exact wpAny_bind (wpAny_pure (wpAny_pure ⟨.none, rfl, wpAny_pure (fin hget)⟩))
    | exact wpAny_pure ⟨.none, rfl, wpAny_pure (fin hget)⟩
section
variable {C : Cx} {l : Loc} {D D' : Led} {g : Array GenState} {env : Env}
/-- list[-1] += value, the last item a text -/
theorem Aug_last {o i value : PySem.Expr} {tpos pos : Pos} {its : List Value} {a : Addr} {x y : List Nat} {t : Tok} {Q : Flow → AS → Prop}
    (ho : W C ⟨l, D, g⟩ (eval o env) fun v σ => v = .ref a ∧ σ = ⟨l, D, g⟩) (hin : (a, listP (its ++ [.str (T x) t])) ∈ D)
    (hi : W C ⟨l, D, g⟩ (eval i env) fun v σ => (∃ u, v = .int (-1) u) ∧ σ = ⟨l, D, g⟩) (hv : W C ⟨l, D, g⟩ (eval value env) fun v σ => (∃ u, v = .str (T y) u) ∧ σ = ⟨l, D, g⟩)
    (hz : its.length ≤ 1000) (hz2 : x.length + y.length ≤ 1000) (h : ∀ t', ∃ D', UpdD D a (listP (its ++ [.str (T x) t])) (listP (its ++ [.str (T (x ++ y)) t'])) D' ∧ Q .next ⟨l, D', g⟩)
    (hst : ∀ ov iv new, augStore i ov iv new = (do holding [new, ov, iv] (setItem ov iv new); release [new, ov, iv] []; pure .next) := by intros; rfl) :
    W C ⟨l, D, g⟩ (exec (.AugAssign (.Subscript o i tpos) .Add value pos) env) Q := fun s E H => by
  refine wpAny_AugAssign_SubscriptAny (wpAny_mono (ho s E H) (fun ov s₁ h₁ => ?_) fun _ _ x => x) hst
  obtain ⟨σ₁, ⟨rfl, rfl⟩, H₁⟩ := h₁
  refine wpAny_mono (hi s₁ E H₁) (fun iv s₂ h₂ => ?_) fun _ _ x => x
  obtain ⟨σ₂, ⟨⟨u, rfl⟩, rfl⟩, H₂⟩ := h₂
  have hl2 := (H₂.list hin).isList
  have hsz : (its ++ [Value.str (T x) t]).toArray.size = its.length + 1 := by simp
  refine wpAny_getItem_list_neg hl2 (by decide) (by rw [hsz]; omega) (by decide) (x := .str (T x) t) (by rw [hsz, show (-1 + ((its.length + 1 : Nat) : Int)).toNat = its.length from by omega]; simp) ?_
  refine wpAny_mono (hv s₂ E H₂) (fun v s₃ h₃ => ?_) fun _ _ x => x
  obtain ⟨σ₃, ⟨⟨u3, rfl⟩, rfl⟩, H₃⟩ := h₃
  refine wpAny_mono (IAdd_T (a := x) (b := y) (by omega) (Q := fun v σ => (∃ t', v = .str (T (x ++ y)) t') ∧ σ = ⟨l, D, g⟩) (fun t' => ⟨⟨t', rfl⟩, rfl⟩) s₃ E H₃) (fun v s₄ h₄ => ?_) fun _ _ x => x
  obtain ⟨σ₄, ⟨⟨t', rfl⟩, rfl⟩, H₄⟩ := h₄
  obtain ⟨ob, hob, n, rfl⟩ := H₄.obj hin
  obtain ⟨D', ud, hq⟩ := h t'
  refine set_last hob fun h' n' hs' hg' => ⟨_, hq, H₄.change ud hs' hg' ⟨n', rfl⟩ s₄.toks⟩
end
end
section
open PySem.Calls PyProof.V PySem.Spec PySem.SeqAt
open StrLaws
def trStmt (n : Nat) : Stmt := (bodyAt 29).getD n noStmt
def trLoop : Stmt := trStmt 3
abbrev trLoc (cs : List Nat) (tp tq : Tok) (res add : Addr) (i : Nat) (ti : Tok) (tn : Tok) (c j stuff chunks k chunk : Option Value) : Loc :=
  [(S "pat", some (.str (T cs) tp)), (S "STAR", some .none), (S "QUESTION_MARK", some (.str (S ".") tq)), (S "res", some (.ref res)), (S "add", some (.ref add)), (S "i", some (.int i ti)), (S "n", some (.int cs.length tn)),
   (S "c", c), (S "j", j), (S "stuff", stuff), (S "chunks", chunks), (S "k", k), (S "chunk", chunk)]
abbrev trLed (res add P : Addr) (vs : List Value) : Led := [(res, listP vs), (add, bmP res), (P, tabP)]
abbrev trEnv (L fa c : Addr) : Env := envOf (S "_translate") (scopeAt 29) L fa (.ref c)
section
variable {C : Cx} {g : Array GenState} {fa cd P : Addr} {cs : List Nat} {tp tq : Tok} {res add : Addr} {mg mb : Str → Option Value} {ea : Addr} {kk : Nat}
set_option maxHeartbeats 1000000 in
theorem turn_q {target : PySem.Expr} {body orelse : List Stmt} {pos : Pos} (hs : trLoop = .While target body orelse pos) (hcs : cs.length ≤ 1000) {i : Nat} (hi : cs[i]? = some 63) {vs : List Value} (hvs : vs.length ≤ 100) {ti tn : Tok} {c j stuff chunks k chunk : Option Value} {Q : Flow → AS → Prop}
    (h : ∀ ti c, Q .next ⟨trLoc cs tp tq res add (i + 1) ti tn c j stuff chunks k chunk, trLed res add P (vs ++ [.str (S ".") tq]), g⟩) :
    W C ⟨trLoc cs tp tq res add i ti tn c j stuff chunks k chunk, trLed res add P vs, g⟩ (execs body (trEnv C.L fa cd)) Q := by
  cases hs
  refine Execs_cons ?_
  refine Assign_Name ?_
  refine Sub_ ?_
  refine Name_local (by walk_at "rx m") ?_
  refine Name_local (by walk_at "rx m") ?_
  refine Item_str hi (by have := (List.getElem?_eq_some_iff.mp hi).1; omega) fun t1 => ?_
  refine Store_local (by walk_at "rx u") ?_
  refine Execs_cons ?_
  refine Assign_Name ?_
  refine BinOp_ ?_
  refine Name_local (by walk_at "rx m") ?_
  refine Const_int fun t2 => ?_
  refine Add_int fun t3 => ?_
  refine Store_local (by walk_at "rx u") ?_
  refine Execs_cons ?_
  refine If_ ?_
  refine Test_cmp ?_
  refine Name_local (by walk_at "rx m") ?_
  refine Const_str fun t4 => ?_
  refine Eq_ch (b := 42) ⟨_, rfl, ?_⟩
  refine ite_f ?_
  refine Execs_cons ?_
  refine If_ ?_
  refine Test_cmp ?_
  refine Name_local (by walk_at "rx m") ?_
  refine Const_str fun t5 => ?_
  refine Eq_ch (b := 63) ⟨_, rfl, ?_⟩
  refine ite_t ?_
  refine Execs_cons ?_
  refine Expr_stmt ?_
  refine Call_bm (f := res) (by walk_at "rx m") (by walk_at "rx m") ?_
  refine Name_local (by walk_at "rx m") ⟨vs, _, by walk_at "rx m", by omega, by walk_at "rx ud", (fun b e => nomatch e), ?_⟩
  exact Execs_nil (Execs_nil (Execs_nil (h t3 _)))
end
end
section
open PySem.Calls PyProof.V PySem.Spec PySem.SeqAt
open StrLaws
section
variable {C : Cx} {l : Loc} {D : Led} {g : Array GenState}
theorem Ne_ch {a b : Nat} {t u : Tok} {y : Str} {Q : Value → AS → Prop} (h : Q (.bool (a != b)) ⟨l, D, g⟩) (hy : y = strOf b := by kernel_rfl) : W C ⟨l, D, g⟩ (compareOp .NotEq (.str (strOf a) t) (.str y u)) Q := fun s E H => by
  subst hy
  refine PyProof.Rows.ne_str ?_
  have e : (strOf a != strOf b) = (a != b) := congrArg not ((T_beq [a] [b]).trans (by simp))
  rw [e]
  exact ⟨_, h, H⟩
end
def orelseOf : Stmt → List Stmt
  | .If _ _ o _ => o
  | .While _ _ o _ => o
  | _ => []
def trElse1 : List Stmt := orelseOf ((bodyOf trLoop).getD 2 noStmt)
def trElse2 : List Stmt := orelseOf (trElse1.getD 0 noStmt)
def brIf : Stmt := trElse2.getD 0 noStmt
def brElse : List Stmt := orelseOf ((bodyOf brIf).getD 4 noStmt)
section
variable {C : Cx} {g : Array GenState} {fa cd P : Addr} {cs : List Nat} {tp tq : Tok} {res add : Addr} {mg mb : Str → Option Value} {ea : Addr} {kk : Nat}
set_option maxHeartbeats 1000000 in
theorem turn_head {target : PySem.Expr} {body orelse : List Stmt} {pos : Pos} (hs : trLoop = .While target body orelse pos) (hcs : cs.length ≤ 1000) {i ch : Nat} (hi : cs[i]? = some ch) (h42 : (ch == 42) = false) (h63 : (ch == 63) = false) {D : Led} {ti tn : Tok} {c j stuff chunks k chunk : Option Value} {Q : Flow → AS → Prop}
    (h : ∀ t ti, W C ⟨trLoc cs tp tq res add (i + 1) ti tn (some (.str (strOf ch) t)) j stuff chunks k chunk, D, g⟩ (execs trElse2 (trEnv C.L fa cd)) fun f σ' => f = .next ∧ Q .next σ') :
    W C ⟨trLoc cs tp tq res add i ti tn c j stuff chunks k chunk, D, g⟩ (execs body (trEnv C.L fa cd)) Q := by
  cases hs
  refine Execs_cons ?_
  refine Assign_Name ?_
  refine Sub_ ?_
  refine Name_local (by walk_at "rx m") ?_
  refine Name_local (by walk_at "rx m") ?_
  refine Item_str hi (by have := (List.getElem?_eq_some_iff.mp hi).1; omega) fun t1 => ?_
  refine Store_local (by walk_at "rx u") ?_
  refine Execs_cons ?_
  refine Assign_Name ?_
  refine BinOp_ ?_
  refine Name_local (by walk_at "rx m") ?_
  refine Const_int fun t2 => ?_
  refine Add_int fun t3 => ?_
  refine Store_local (by walk_at "rx u") ?_
  refine Execs_cons ?_
  refine If_ ?_
  refine Test_cmp ?_
  refine Name_local (by walk_at "rx m") ?_
  refine Const_str fun t4 => ?_
  refine Eq_ch (b := 42) ⟨_, rfl, ?_⟩
  rw [h42]
  refine ite_f ?_
  refine Execs_cons ?_
  refine If_ ?_
  refine Test_cmp ?_
  refine Name_local (by walk_at "rx m") ?_
  refine Const_str fun t5 => ?_
  refine Eq_ch (b := 63) ⟨_, rfl, ?_⟩
  rw [h63]
  refine ite_f ?_
  refine W.mono (h t1 t3) ?_
  rintro f σ' ⟨rfl, hq⟩
  exact Execs_nil (Execs_nil hq)
set_option maxHeartbeats 1000000 in
theorem turn_c {target : PySem.Expr} {body orelse : List Stmt} {pos : Pos} (hs : trLoop = .While target body orelse pos) (G : Gl C.h₀ mg mb) (F : Def C.h₀ mg 27 (S "escape") ea) (hin : mg (S "isinstance") = none) (hib : mb (S "isinstance") = some (.builtin "isinstance")) (hsn : mg (S "str") = none) (hsb : mb (S "str") = some (.type "str"))
    (ET : EscTab C mg) (R : Room C.A (kk + 1)) (hcs : cs.length ≤ 1000) {i ch : Nat} (hi : cs[i]? = some ch) (hc : ch ∈ [45, 112, 99, 100, 98, 108, 115, 114, 119, 120, 83, 116, 84]) {vs : List Value} (hvs : vs.length ≤ 100) {ti tn : Tok} {c j stuff chunks k chunk : Option Value} {Q : Flow → AS → Prop}
    (h : ∀ ti c t, Q .next ⟨trLoc cs tp tq res add (i + 1) ti tn c j stuff chunks k chunk, trLed res add P (vs ++ [.str (T (escOf ch)) t]), g⟩) :
    W C ⟨trLoc cs tp tq res add i ti tn c j stuff chunks k chunk, trLed res add P vs, g⟩ (execs body (trEnv C.L fa cd)) Q := by
  have hne : (ch == 42) = false ∧ (ch == 63) = false ∧ (ch == 91) = false := by
    simp only [List.mem_cons, List.not_mem_nil, or_false] at hc
    rcases hc with rfl | rfl | rfl | rfl | rfl | rfl | rfl | rfl | rfl | rfl | rfl | rfl | rfl <;> decide
  refine turn_head hs hcs hi hne.1 hne.2.1 fun t ti => ?_
  change W C _ (execs (_ :: _) _) _
  refine Execs_cons ?_
  refine If_ ?_
  refine Test_cmp ?_
  refine Name_local (by walk_at "rx m") ?_
  refine Const_str fun t5 => ?_
  refine Eq_ch (b := 91) ⟨_, rfl, ?_⟩
  rw [hne.2.2]
  refine ite_f ?_
  refine Execs_cons ?_
  refine Expr_stmt ?_
  refine Call_bm (f := res) (by walk_at "rx m") (by walk_at "rx m") ?_
  refine Call_fn G F ?_
  refine Args_cons ?_
  refine Name_local (by walk_at "rx m") ?_
  refine Args_nil ?_
  refine escape_call G F hin hib hsn hsb ET R hc fun t6 => ?_
  exact ⟨vs, _, by walk_at "rx m", by omega, by walk_at "rx ud", (fun b e => nomatch e), Execs_nil (Execs_nil ⟨rfl, h ti _ t6⟩)⟩
/-- the run to the closing bracket -/
theorem br_while {target : PySem.Expr} {body orelse : List Stmt} {pos : Pos} (hs : (bodyOf brIf).getD 3 noStmt = .While target body orelse pos) (hcs : cs.length ≤ 1000) {e i : Nat} (he : cs[e]? = some 93) {D : Led} {ti tn : Tok} {c stuff chunks k chunk : Option Value} {Q : Flow → AS → Prop}
    (h : ∀ tj, Q .next ⟨trLoc cs tp tq res add i ti tn c (some (.int e tj)) stuff chunks k chunk, D, g⟩) :
    ∀ (d j : Nat) (tj : Tok), j + d = e → (∀ p, j ≤ p → p < e → ∃ ch, cs[p]? = some ch ∧ ch ≠ 93) →
      WWhile C ⟨trLoc cs tp tq res add i ti tn c (some (.int j tj)) stuff chunks k chunk, D, g⟩ target body orelse (trEnv C.L fa cd) Q := by
  cases hs
  have hel : e < cs.length := (List.getElem?_eq_some_iff.mp he).1
  intro d
  induction d with
  | zero =>
    intro j tj hj hb
    have hje : j = e := by omega
    subst hje
    refine WWhile.step ?_
    refine And_cons ?_
    refine Test_cmp ?_
    refine Name_local (by walk_at "rx m") ?_
    refine Name_local (by walk_at "rx m") ?_
    refine Lt_int ⟨_, rfl, ?_⟩
    rw [show decide ((j : Int) < (cs.length : Int)) = true from decide_eq_true (by omega)]
    refine ite_t ?_
    refine And_cons ?_
    refine Test_cmp ?_
    refine Sub_ ?_
    refine Name_local (by walk_at "rx m") ?_
    refine Name_local (by walk_at "rx m") ?_
    refine Item_str he (by omega) fun t1 => ?_
    refine Const_str fun t2 => ?_
    refine Ne_ch (b := 93) ⟨_, rfl, ?_⟩
    refine ite_f ?_
    refine ite_f ?_
    exact Execs_nil (h tj)
  | succ d ih =>
    intro j tj hj hb
    obtain ⟨ch, hch, h93⟩ := hb j (Nat.le_refl _) (by omega)
    refine WWhile.step ?_
    refine And_cons ?_
    refine Test_cmp ?_
    refine Name_local (by walk_at "rx m") ?_
    refine Name_local (by walk_at "rx m") ?_
    refine Lt_int ⟨_, rfl, ?_⟩
    rw [show decide ((j : Int) < (cs.length : Int)) = true from decide_eq_true (by omega)]
    refine ite_t ?_
    refine And_cons ?_
    refine Test_cmp ?_
    refine Sub_ ?_
    refine Name_local (by walk_at "rx m") ?_
    refine Name_local (by walk_at "rx m") ?_
    refine Item_str hch (by omega) fun t1 => ?_
    refine Const_str fun t2 => ?_
    refine Ne_ch (b := 93) ⟨_, rfl, ?_⟩
    rw [show (ch != 93) = true from by simpa using h93]
    refine ite_t ?_
    refine And_nil ?_
    refine ite_t ?_
    refine Execs_cons ?_
    refine Assign_Name ?_
    refine BinOp_ ?_
    refine Name_local (by walk_at "rx m") ?_
    refine Const_int fun t3 => ?_
    refine Add_int fun t4 => ?_
    refine Store_local (by walk_at "rx u") ?_
    refine Execs_nil ?_
    exact ih (j + 1) t4 (by omega) fun p h1 h2 => hb p (by omega) h2
end
end
section
open PySem.Calls PyProof.V PySem.Spec PySem.SeqAt
open StrLaws
def brBody : List Stmt := bodyOf brIf
section
variable {C : Cx} {l : Loc} {D : Led} {g : Array GenState}
theorem Add_cT {a b : List Nat} {y : Str} {t u : Tok} {Q : Value → AS → Prop} (hz : a.length + b.length ≤ 1000000) (h : ∀ t, Q (.str (T (a ++ b)) t) ⟨l, D, g⟩) (hy : y = T a := by kernel_rfl) : W C ⟨l, D, g⟩ (binaryOp .Add (.str y t) (.str (T b) u)) Q := by
  subst hy
  exact Add_T hz h
end
theorem in_body {cs b post : List Nat} {i : Nat} (h : cs.drop i = b ++ 93 :: post) : cs[i + b.length]? = some 93 ∧ i + b.length < cs.length ∧ ∀ q x, b[q]? = some x → cs[i + q]? = some x := by
  have h1 : cs[i + b.length]? = some 93 := by
    have := congrArg (·[b.length]?) h
    simpa using this
  refine ⟨h1, (List.getElem?_eq_some_iff.mp h1).1, fun q x hq => ?_⟩
  have hl := (List.getElem?_eq_some_iff.mp hq).1
  have := congrArg (·[q]?) h
  simp only [List.getElem?_drop] at this
  rw [this, List.getElem?_append_left hl, hq]
section
variable {C : Cx} {g : Array GenState} {fa cd P : Addr} {cs : List Nat} {tp tq : Tok} {res add : Addr} {mg mb : Str → Option Value} {ea : Addr} {kk : Nat}
set_option maxHeartbeats 1000000 in
theorem br_front (hcs : cs.length ≤ 1000) {i c0 : Nat} {r post : List Nat} (hd : cs.drop i = (c0 :: r) ++ 93 :: post) (h93 : ∀ x ∈ c0 :: r, x ≠ 93) (h33 : c0 = 33 → r ≠ []) {D : Led} {ti tn tc : Tok} {j stuff chunks k chunk : Option Value} {Q : Flow → AS → Prop}
    (h : ∀ tj, W C ⟨trLoc cs tp tq res add i ti tn (some (.str (strOf 91) tc)) (some (.int (i + (c0 :: r).length : Nat) tj)) stuff chunks k chunk, D, g⟩ (execs brElse (trEnv C.L fa cd)) fun f σ' => f = .next ∧ Q .next σ') :
    W C ⟨trLoc cs tp tq res add i ti tn (some (.str (strOf 91) tc)) j stuff chunks k chunk, D, g⟩ (execs trElse2 (trEnv C.L fa cd)) fun f σ' => f = .next ∧ Q .next σ' := by
  obtain ⟨he, hel, hin⟩ := in_body hd
  have hi0 := hin 0 c0 rfl
  have hbl : (c0 :: r).length = r.length + 1 := rfl
  generalize hE : i + (c0 :: r).length = e at *
  have rest : ∀ (p : Nat) (tj : Tok), i ≤ p → p < e → W C ⟨trLoc cs tp tq res add i ti tn (some (.str (strOf 91) tc)) (some (.int p tj)) stuff chunks k chunk, D, g⟩ (execs (brBody.drop 2) (trEnv C.L fa cd)) fun f σ' => f = .next ∧ Q .next σ' := by
    intro p tj hp1 hp2
    have all : ∀ q, i ≤ q → q < e → ∃ ch, cs[q]? = some ch ∧ ch ≠ 93 := fun q h1 h2 => by
      have hq : (c0 :: r)[q - i]? = some (c0 :: r)[q - i] := List.getElem?_eq_getElem (by omega)
      have := hin _ _ hq
      rw [show i + (q - i) = q from by omega] at this
      exact ⟨_, this, h93 _ (List.getElem_mem _)⟩
    obtain ⟨ch, hch, hne⟩ := all p hp1 hp2
    change W C _ (execs (_ :: _ :: _ :: _) _) _
    refine Execs_cons ?_
    refine If_ ?_
    refine And_cons ?_
    refine Test_cmp ?_
    refine Name_local (by walk_at "rx m") ?_
    refine Name_local (by walk_at "rx m") ?_
    refine Lt_int ⟨_, rfl, ?_⟩
    rw [show decide ((p : Int) < (cs.length : Int)) = true from decide_eq_true (by omega)]
    refine ite_t ?_
    refine And_cons ?_
    refine Test_cmp ?_
    refine Sub_ ?_
    refine Name_local (by walk_at "rx m") ?_
    refine Name_local (by walk_at "rx m") ?_
    refine Item_str hch (by omega) fun t1 => ?_
    refine Const_str fun t2 => ?_
    refine Eq_ch (b := 93) ⟨_, rfl, ?_⟩
    rw [show (ch == 93) = false from by simpa using hne]
    refine ite_f ?_
    refine ite_f ?_
    refine Execs_nil ?_
    refine Execs_cons ?_
    refine While_ ?_
    refine br_while (by rfl) hcs he (fun tj' => ?_) (e - p) p tj (by omega) (fun q h1 h2 => all q (by omega) h2)
    dsimp only
    refine Execs_cons ?_
    refine If_ ?_
    refine Test_cmp ?_
    refine Name_local (by walk_at "rx m") ?_
    refine Name_local (by walk_at "rx m") ?_
    refine Ge_int ⟨_, rfl, ?_⟩
    rw [show decide ((cs.length : Int) ≤ (e : Int)) = false from decide_eq_false (by omega)]
    refine ite_f ?_
    refine W.mono (h tj') ?_
    rintro f σ' ⟨rfl, hq⟩
    exact Execs_nil ⟨rfl, hq⟩
  change W C _ (execs (_ :: _) _) _
  refine Execs_cons ?_
  refine If_ ?_
  refine Test_cmp ?_
  refine Name_local (by walk_at "rx m") ?_
  refine Const_str fun t5 => ?_
  refine Eq_ch (b := 91) ⟨_, rfl, ?_⟩
  refine ite_t ?_
  refine Execs_cons ?_
  refine Assign_Name ?_
  refine Name_local (by walk_at "rx m") ?_
  refine Store_local (by walk_at "rx u") ?_
  refine Execs_cons ?_
  refine If_ ?_
  refine And_cons ?_
  refine Test_cmp ?_
  refine Name_local (by walk_at "rx m") ?_
  refine Name_local (by walk_at "rx m") ?_
  refine Lt_int ⟨_, rfl, ?_⟩
  rw [show decide ((i : Int) < (cs.length : Int)) = true from decide_eq_true (by omega)]
  refine ite_t ?_
  refine And_cons ?_
  refine Test_cmp ?_
  refine Sub_ ?_
  refine Name_local (by walk_at "rx m") ?_
  refine Name_local (by walk_at "rx m") ?_
  refine Item_str hi0 (by omega) fun t1 => ?_
  refine Const_str fun t2 => ?_
  refine Eq_ch (b := 33) ⟨_, rfl, ?_⟩
  refine ite_b (fun hb => ?_) (fun hb => ?_)
  · refine And_nil ?_
    refine ite_t ?_
    refine Execs_cons ?_
    refine Assign_Name ?_
    refine BinOp_ ?_
    refine Name_local (by walk_at "rx m") ?_
    refine Const_int fun t3 => ?_
    refine Add_int fun t4 => ?_
    refine Store_local (by walk_at "rx u") ?_
    refine Execs_nil ?_
    have hr : r ≠ [] := h33 (by simpa using hb)
    have := List.length_pos_iff.mpr hr
    refine W.mono (rest (i + 1) t4 (by omega) (by omega)) ?_
    rintro f σ' ⟨rfl, hq⟩
    exact Execs_nil ⟨rfl, hq⟩
  · refine ite_f ?_
    refine Execs_nil ?_
    refine W.mono (rest i _ (by omega) (by omega)) ?_
    rintro f σ' ⟨rfl, hq⟩
    exact Execs_nil ⟨rfl, hq⟩
/-- what the text holds for the pattern's part -/
structure TrK (C : Cx) (mg mb : Str → Option Value) (cd P : Addr) : Prop where
  G : Gl C.h₀ mg mb
  hd : PySem.W.CodeHd C.h₀ cd P
  hb : C.h₀.BuiltinsAt mg P
  pat : ∃ pa pp, mg (S "_twin_re_1") = some (.ref pa) ∧ Kn C [] pa (patP pp) ∧ Kn C [] pp codeP
def barOf : List Nat → List Nat
  | 33 :: r => 94 :: r
  | r => r
theorem sub_props {b : List Nat} (h : b ∈ subList) : ∃ c0 r, b = c0 :: r ∧ (c0 :: r == [33]) = false ∧ c0 ≠ 94 ∧ c0 ≠ 91 ∧ c0 < 128 ∧ r.length ≤ 9 := by
  have hall : subList.all (fun b => match b with | [] => false | c0 :: r => !(c0 :: r == [33]) && !(c0 == 94) && !(c0 == 91) && decide (c0 < 128) && decide (r.length ≤ 9)) = true := by decide
  have := List.all_eq_true.mp hall b h
  cases b with
  | nil => simp at this
  | cons c0 r =>
    simp only [Bool.and_eq_true, Bool.not_eq_true', decide_eq_true_eq, beq_eq_false_iff_ne] at this
    obtain ⟨⟨⟨⟨h1, h2⟩, h3⟩, h4⟩, h5⟩ := this
    exact ⟨c0, r, rfl, beq_eq_false_iff_ne.mpr h1, h2, h3, h4, h5⟩
set_option maxHeartbeats 1000000 in
theorem br_tail (K : TrK C mg mb cd P) (hu : C.A.units ≤ 9000) (hcs : cs.length ≤ 1000) {i e : Nat} {b : List Nat} (hb : b ∈ subList) {vs : List Value} (hvs : vs.length ≤ 100) {ti tn tj ts : Tok} {c chunks k chunk : Option Value} {Q : Flow → AS → Prop}
    (h : ∀ ti stuff t, Q .next ⟨trLoc cs tp tq res add (e + 1) ti tn c (some (.int e tj)) stuff chunks k chunk, trLed res add P (vs ++ [.str (T (91 :: barOf b ++ [93])) t]), g⟩) :
    W C ⟨trLoc cs tp tq res add i ti tn c (some (.int e tj)) (some (.str (T b) ts)) chunks k chunk, trLed res add P vs, g⟩ (execs (brElse.drop 2) (trEnv C.L fa cd)) fun f σ' => f = .next ∧ Q .next σ' := by
  obtain ⟨pa, pp, hpat, kp, kc⟩ := K.pat
  obtain ⟨c0, r, rfl, n33, n94, n91, hc0, hr⟩ := sub_props hb
  change W C _ (execs (_ :: _ :: _ :: _) _) _
  refine Execs_cons ?_
  refine Assign_Name ?_
  refine Meth_sub (a := pa) (p := pp) ?_
  refine Name_global K.G hpat ?_
  refine ⟨rfl, kp.old, ?_⟩
  refine Args_cons ?_
  refine Lambda_ K.G K.hd K.hb (by walk_at "rx m") fun f => ?_
  refine Args_cons ?_
  refine Name_local (by walk_at "rx m") ?_
  refine Args_nil ?_
  refine Sub_call (p := pp) kp.old kc.old (.inr (by walk_at "rx m")) hb fun t1 => ?_
  refine Store_local (by walk_at "rx u") ?_
  refine W.weak (σ' := ⟨_, trLed res add P vs, g⟩) ?_ rfl (List.sublist_cons_self _ _) rfl
  refine Execs_cons ?_
  refine Assign_Name ?_
  refine BinOp_ ?_
  refine Name_local (by walk_at "rx m") ?_
  refine Const_int fun t2 => ?_
  refine Add_int fun t3 => ?_
  refine Store_local (by walk_at "rx u") ?_
  refine Execs_cons ?_
  refine If_ ?_
  refine Test_not ?_
  refine Test_plain ?_
  refine Name_local (by walk_at "rx m") ?_
  refine Truthy_T (by simp; omega) ?_
  refine ite_f ?_
  refine Execs_cons ?_
  refine If_ ?_
  refine Test_cmp ?_
  refine Name_local (by walk_at "rx m") ?_
  refine Const_str fun t4 => ?_
  refine Eq_T (b := [33]) ⟨_, rfl, ?_⟩
  rw [n33]
  refine ite_f ?_
  have fin : ∀ (cs' : List Nat) (t5 : Tok), cs' = barOf (c0 :: r) → W C ⟨trLoc cs tp tq res add (e + 1) t3 tn c (some (.int e tj)) (some (.str (T cs') t5)) chunks k chunk, trLed res add P vs, g⟩
      (execs ((orelseOf ((orelseOf ((brElse.drop 4).getD 0 noStmt)).getD 0 noStmt)).drop 1) (trEnv C.L fa cd)) fun f σ' => f = .next ∧ Q .next σ' := by
    intro cs' t5 hcs'
    subst hcs'
    have hlen : (barOf (c0 :: r)).length ≤ 10 := by
      unfold barOf
      split
      · simp_all
      · simp; omega
    change W C _ (execs (_ :: _) _) _
    refine Execs_cons ?_
    refine Expr_stmt ?_
    refine Call_bm (f := res) (by walk_at "rx m") (by walk_at "rx m") ?_
    refine FStr_ (x := S "stuff") (by walk_at "rx m") (by omega) fun t6 => ?_
    exact ⟨vs, _, by walk_at "rx m", by omega, by walk_at "rx ud", (fun b e => nomatch e), Execs_nil ⟨rfl, h t3 _ t6⟩⟩
  refine Execs_cons ?_
  refine If_ ?_
  refine Test_cmp ?_
  refine Sub_ ?_
  refine Name_local (by walk_at "rx m") ?_
  refine Const_int fun t6 => ?_
  refine Item_strZ (k := 0) (c := c0) rfl rfl (by omega) fun t7 => ?_
  refine Const_str fun t8 => ?_
  refine Eq_ch (b := 33) ⟨_, rfl, ?_⟩
  refine ite_b (fun h33 => ?_) (fun h33 => ?_)
  · have e33 : c0 = 33 := by simpa using h33
    subst e33
    refine Execs_cons ?_
    refine Assign_Name ?_
    refine BinOp_ ?_
    refine Const_str fun t9 => ?_
    refine Sub_ ?_
    refine Name_local (by walk_at "rx m") ?_
    refine Slice_ ?_
    refine Part_some ?_
    refine Const_int fun t10 => ?_
    refine Part_none ?_
    refine Part_none fun sl => ?_
    refine Slice_from (i := 1) (by walk_at "rx m") (by simp) (by simp; omega) fun t11 => ?_
    refine Add_cT (a := [94]) (by simp; omega) fun t12 => ?_
    refine Store_local (by walk_at "rx u") ?_
    refine W.weak (σ' := ⟨_, trLed res add P vs, g⟩) ?_ rfl (List.sublist_cons_self _ _) rfl
    refine Execs_nil ?_
    refine W.mono (fin _ t12 rfl) ?_
    rintro f σ' ⟨rfl, hq⟩
    exact Execs_nil (Execs_nil ⟨rfl, hq⟩)
  · have n33' : c0 ≠ 33 := by simpa using h33
    refine Execs_cons ?_
    refine If_ ?_
    refine Test_cmp ?_
    refine Sub_ ?_
    refine Name_local (by walk_at "rx m") ?_
    refine Const_int fun t9 => ?_
    refine Item_strZ (k := 0) (c := c0) rfl rfl (by omega) fun t10 => ?_
    refine Tuple_disp ?_
    refine Args_cons ?_
    refine Const_str fun t11 => ?_
    refine Args_cons ?_
    refine Const_str fun t12 => ?_
    refine Args_nil ⟨show (2 : Nat) ≤ sizeLine from by decide, fun tu => ?_⟩
    refine In_tup2 (x := 94) (y := 91) (.inr (by walk_at "rx m")) hc0 (by decide) (by decide) hu ⟨_, rfl, ?_⟩
    rw [show (94 == c0 || 91 == c0) = false from by simp; omega]
    refine ite_f ?_
    refine W.weak (σ' := ⟨_, trLed res add P vs, g⟩) ?_ rfl (List.sublist_cons_self _ _) rfl
    refine Execs_nil ?_
    refine Execs_nil ?_
    refine W.mono (fin _ t1 ?_) ?_
    · unfold barOf
      split
      · rename_i e; cases e; exact absurd rfl n33'
      · rfl
    rintro f σ' ⟨rfl, hq⟩
    exact Execs_nil (Execs_nil ⟨rfl, hq⟩)
end
end
section
open PySem.Calls PyProof.V PySem.Spec PySem.SeqAt
open StrLaws
def chunkBody : List Stmt := orelseOf (brElse.getD 1 noStmt)
section
variable {C : Cx} {g : Array GenState} {fa cd P : Addr} {cs : List Nat} {tp tq : Tok} {res add ch : Addr} {mg mb : Str → Option Value} {ea : Addr} {kk : Nat}
set_option maxHeartbeats 1000000 in
/-- no stroke is found -/
theorem find_miss {target : PySem.Expr} {body orelse : List Stmt} {pos : Pos} (hs : chunkBody.getD 2 noStmt = .While target body orelse pos) {i k e : Nat} (he : e ≤ cs.length) (hno : ∀ p, k ≤ p → p < e → cs[p]? ≠ some 45) {D : Led} {ti tn tj tk : Tok} {c stuff chunks chunk : Option Value} {Q : Flow → AS → Prop}
    (h : ∀ tk, Q .next ⟨trLoc cs tp tq res add i ti tn c (some (.int e tj)) stuff chunks (some (.int (-1) tk)) chunk, D, g⟩) :
    WWhile C ⟨trLoc cs tp tq res add i ti tn c (some (.int e tj)) stuff chunks (some (.int k tk)) chunk, D, g⟩ target body orelse (trEnv C.L fa cd) Q := by
  cases hs
  refine WWhile.step ?_
  refine Test_plain ?_
  refine Const_bool ?_
  refine Truthy_bool ?_
  refine ite_t ?_
  refine Execs_cons ?_
  refine Assign_Name ?_
  refine Meth_str F.slot_str_find F.type_str_find ?_
  refine Name_local (by walk_at "rx m") ?_
  refine ⟨_, _, rfl, ?_⟩
  refine Args_cons ?_
  refine Const_str fun t1 => ?_
  refine Args_cons ?_
  refine Name_local (by walk_at "rx m") ?_
  refine Args_cons ?_
  refine Name_local (by walk_at "rx m") ?_
  refine Args_nil ?_
  refine Find_call (c := 45) (i := k) (j := e) he fun t2 => ?_
  rw [find_none he hno]
  refine Store_local (by walk_at "rx u") ?_
  refine Execs_cons ?_
  refine If_ ?_
  refine Test_cmp ?_
  refine Name_local (by walk_at "rx m") ?_
  refine Const_int fun t3 => ?_
  refine Lt_int ⟨_, rfl, ?_⟩
  refine ite_t ?_
  refine Execs_cons ?_
  refine Break_ (List.Sublist.refl _) ?_
  exact h t2
set_option maxHeartbeats 1000000 in
/-- a stroke is found at once -/
theorem find_hit {target : PySem.Expr} {body orelse : List Stmt} {pos : Pos} (hs : chunkBody.getD 2 noStmt = .While target body orelse pos) {i k e : Nat} (hcs : cs.length ≤ 1000) (he : e ≤ cs.length) (hk : k < e) (hik : i ≤ k) (hat : cs[k]? = some 45) {D : Led} {ti tn tj tk : Tok} {c stuff chunk : Option Value} {Q : Flow → AS → Prop}
    (h : ∀ ti tk t, WWhile C ⟨trLoc cs tp tq res add (k + 1) ti tn c (some (.int e tj)) stuff (some (.ref ch)) (some (.int (k + 3 : Nat) tk)) chunk, (ch, listP [.str (T ((cs.drop i).take (k - i))) t]) :: D, g⟩ target body orelse (trEnv C.L fa cd) Q) :
    WWhile C ⟨trLoc cs tp tq res add i ti tn c (some (.int e tj)) stuff (some (.ref ch)) (some (.int k tk)) chunk, (ch, listP []) :: D, g⟩ target body orelse (trEnv C.L fa cd) Q := by
  cases hs
  refine WWhile.step ?_
  refine Test_plain ?_
  refine Const_bool ?_
  refine Truthy_bool ?_
  refine ite_t ?_
  refine Execs_cons ?_
  refine Assign_Name ?_
  refine Meth_str F.slot_str_find F.type_str_find ?_
  refine Name_local (by walk_at "rx m") ?_
  refine ⟨_, _, rfl, ?_⟩
  refine Args_cons ?_
  refine Const_str fun t1 => ?_
  refine Args_cons ?_
  refine Name_local (by walk_at "rx m") ?_
  refine Args_cons ?_
  refine Name_local (by walk_at "rx m") ?_
  refine Args_nil ?_
  refine Find_call (c := 45) (i := k) (j := e) he fun t2 => ?_
  rw [find_here he hk hat]
  refine Store_local (by walk_at "rx u") ?_
  refine Execs_cons ?_
  refine If_ ?_
  refine Test_cmp ?_
  refine Name_local (by walk_at "rx m") ?_
  refine Const_int fun t3 => ?_
  refine Lt_int ⟨_, rfl, ?_⟩
  rw [show decide ((k : Int) < 0) = false from decide_eq_false (by omega)]
  refine ite_f ?_
  refine Execs_nil ?_
  refine Execs_cons ?_
  refine Expr_stmt ?_
  refine Append_ ?_
  refine Name_local (by walk_at "rx m") ⟨ch, rfl, ⟨_, by walk_at "rx m"⟩, ?_⟩
  refine Sub_ ?_
  refine Name_local (by walk_at "rx m") ?_
  refine Slice_ ?_
  refine Part_some ?_
  refine Name_local (by walk_at "rx m") ?_
  refine Part_some ?_
  refine Name_local (by walk_at "rx m") ?_
  refine Part_none fun sl => ?_
  refine Slice_nat (i := i) (j := k) (by walk_at "rx m") hik (by omega) (by omega) fun t4 => ?_
  refine ⟨[], _, by decide, by walk_at "rx ud", (fun b e => nomatch e), ?_⟩
  refine W.weak (σ' := ⟨_, (ch, listP [.str (T ((cs.drop i).take (k - i))) t4]) :: D, g⟩) ?_ rfl (List.sublist_cons_self _ _) rfl
  refine Execs_cons ?_
  refine Assign_Name ?_
  refine BinOp_ ?_
  refine Name_local (by walk_at "rx m") ?_
  refine Const_int fun t5 => ?_
  refine Add_int fun t6 => ?_
  refine Store_local (by walk_at "rx u") ?_
  refine Execs_cons ?_
  refine Assign_Name ?_
  refine BinOp_ ?_
  refine Name_local (by walk_at "rx m") ?_
  refine Const_int fun t7 => ?_
  refine Add_int fun t8 => ?_
  refine Store_local (by walk_at "rx u") ?_
  refine Execs_nil ?_
  exact h t6 t8 t4
/-- the pairs of chunks in their order are left as they are, and joined -/
inductive Chs : List (List Nat) → Prop
  | one {x} : Chs [x]
  | two {x y : List Nat} {p q : Nat} : x.getLast? = some p → y[0]? = some q → ¬ q < p → Chs [x, y]
set_option maxHeartbeats 1000000 in
theorem br_for {target iter : PySem.Expr} {body orelse : List Stmt} {pos : Pos} (hs : chunkBody.getD 5 noStmt = .For target iter body orelse pos) (G : Gl C.h₀ mg mb) (hln : mg (S "len") = none) (hlb : mb (S "len") = some (.builtin "len")) (hr : mg (S "range") = none) (hb : mb (S "range") = some (.type "range")) (hh : C.A.handled = none)
    {vs : List Value} {css : List (List Nat)} (hc : Chs css) (hv : Paired StrIs vs css) (hz : ∀ x ∈ css, x.length ≤ 1000) {D : Led} {i : Nat} {ti tn : Tok} {c j stuff k chunk : Option Value} {Q : Flow → AS → Prop}
    (h : ∀ k, Q .next ⟨trLoc cs tp tq res add i ti tn c j stuff (some (.ref ch)) k chunk, (ch, listP vs) :: D, g⟩) :
    W C ⟨trLoc cs tp tq res add i ti tn c j stuff (some (.ref ch)) k chunk, (ch, listP vs) :: D, g⟩ (exec (.For target iter body orelse pos) (trEnv C.L fa cd)) Q := by
  cases hs
  have hlen := paired_len hv
  have hl2 : css.length ≤ 2 := by cases hc <;> simp
  refine For_ ?_
  refine Call_ty G hr hb ?_
  refine Args_cons ?_
  refine BinOp_ ?_
  refine Call_bi G hln hlb ?_
  refine Args_cons ?_
  refine Name_local (by walk_at "rx m") ?_
  refine Args_nil ?_
  refine Len_L (.inr (by walk_at "rx m")) (by omega) fun t1 => ?_
  refine Const_int fun t2 => ?_
  refine Sub_int fun t3 => ?_
  refine Args_cons ?_
  refine Const_int fun t4 => ?_
  refine Args_cons ?_
  refine Neg_ ?_
  refine Const_int fun t5 => ?_
  refine Neg_int fun t6 => ?_
  refine Args_nil ?_
  cases hc with
  | one =>
    have h1 : vs.length = 1 := hlen
    rw [h1]
    refine Range3 (a := 0) (b := 0) (c := -1) (by decide) (by decide +kernel) fun r => ?_
    refine Iter_range (a := 0) (b := 0) (c := -1) (fun s H => H.obj (by walk_at "rx m")) (by decide +kernel) fun I => ?_
    refine WLoop.step ?_
    refine Next_range_end (left := Builtin.Range.rangeSize 0 0 (-1)) hh (by decide +kernel) (by walk_at "rx m") (by walk_at "rx d") ?_
    dsimp only
    exact Execs_end (List.sublist_cons_self _ _) (h k)
  | @two x y p q hp hq hpq =>
    have h1 : vs.length = 2 := hlen
    rw [h1]
    obtain ⟨v0, hv0, hs0⟩ := paired_get hv (k := 0) (b := x) rfl
    obtain ⟨v1, hv1, hs1⟩ := paired_get hv (k := 1) (b := y) rfl
    obtain ⟨u0, rfl⟩ := strIs_of hs0
    obtain ⟨u1, rfl⟩ := strIs_of hs1
    have hx := hz x (.head _)
    refine Range3 (a := 1) (b := 0) (c := -1) (by decide) (by decide +kernel) fun r => ?_
    refine Iter_range (a := 1) (b := 0) (c := -1) (fun s H => H.obj (by walk_at "rx m")) (by decide +kernel) fun I => ?_
    rw [show Builtin.Range.rangeSize 1 0 (-1) = 1 from by decide +kernel]
    refine WLoop.step ?_
    refine Next_range (x := 1) (left := 1) (step := -1) (by decide) (by walk_at "rx ud") fun t7 => ?_
    dsimp only
    refine let_plain ?_
    refine Assign_target ?_
    refine Store_local (by walk_at "rx u") ?_
    refine Execs_cons ?_
    refine If_ ?_
    refine Test_cmp ?_
    refine Sub_ ?_
    refine Sub_ ?_
    refine Name_local (by walk_at "rx m") ?_
    refine BinOp_ ?_
    refine Name_local (by walk_at "rx m") ?_
    refine Const_int fun t8 => ?_
    refine Sub_int fun t9 => ?_
    refine ItemZ (k := 0) (.inr (by walk_at "rx m")) rfl hv0 (by decide) ?_
    refine Neg_ ?_
    refine Const_int fun t10 => ?_
    refine Neg_int fun t11 => ?_
    refine Item_last hp (by omega) fun t12 => ?_
    refine Sub_ ?_
    refine Sub_ ?_
    refine Name_local (by walk_at "rx m") ?_
    refine Name_local (by walk_at "rx m") ?_
    refine ItemZ (k := 1) (.inr (by walk_at "rx m")) rfl hv1 (by decide) ?_
    refine Const_int fun t13 => ?_
    refine Item_strZ (k := 0) (c := q) rfl hq (by decide) fun t14 => ?_
    refine Gt_ch ⟨_, rfl, ?_⟩
    rw [show decide (q < p) = false from decide_eq_false hpq]
    refine ite_f ?_
    refine Execs_nil ?_
    refine Execs_nil ?_
    refine WLoop.step ?_
    refine Next_range_end (left := 1 - 1) hh (by decide) (by walk_at "rx m") (by walk_at "rx d") ?_
    dsimp only
    exact Execs_end (List.sublist_cons_self _ _) (h _)
end
end
section
open PySem.Calls PyProof.V PySem.Spec PySem.SeqAt
open StrLaws
section
variable {C : Cx} {g : Array GenState} {fa cd P : Addr} {cs : List Nat} {tp tq : Tok} {res add ch : Addr} {mg mb : Str → Option Value} {ea : Addr} {kk : Nat}
set_option maxHeartbeats 1000000 in
theorem chunk_app (hcs : cs.length ≤ 1000) {i e : Nat} (hie : i ≤ e) (he : e ≤ cs.length) {post : List Nat} (hpost : (cs.drop i).take (e - i) = post) (hne : post ≠ []) {vs : List Value} (hvs : vs.length ≤ 10) {D : Led} {ti tn tj : Tok} {c stuff k chunk : Option Value} {Q : Flow → AS → Prop}
    (h : ∀ t chunk, W C ⟨trLoc cs tp tq res add i ti tn c (some (.int e tj)) stuff (some (.ref ch)) k chunk, (ch, listP (vs ++ [.str (T post) t])) :: D, g⟩ (execs (chunkBody.drop 5) (trEnv C.L fa cd)) Q) :
    W C ⟨trLoc cs tp tq res add i ti tn c (some (.int e tj)) stuff (some (.ref ch)) k chunk, (ch, listP vs) :: D, g⟩ (execs (chunkBody.drop 3) (trEnv C.L fa cd)) Q := by
  have hlen : post.length ≤ 1000 := by rw [← hpost]; simp; omega
  change W C _ (execs (_ :: _ :: _) _) _
  refine Execs_cons ?_
  refine Assign_Name ?_
  refine Sub_ ?_
  refine Name_local (by walk_at "rx m") ?_
  refine Slice_ ?_
  refine Part_some ?_
  refine Name_local (by walk_at "rx m") ?_
  refine Part_some ?_
  refine Name_local (by walk_at "rx m") ?_
  refine Part_none fun sl => ?_
  refine Slice_nat (i := i) (j := e) (by walk_at "rx m") hie (by omega) (by omega) fun t4 => ?_
  rw [hpost]
  refine Store_local (by walk_at "rx u") ?_
  refine W.weak (σ' := ⟨_, (ch, listP vs) :: D, g⟩) ?_ rfl (List.sublist_cons_self _ _) rfl
  refine Execs_cons ?_
  refine If_ ?_
  refine Test_plain ?_
  refine Name_local (by walk_at "rx m") ?_
  refine Truthy_T (by omega) ?_
  rw [show (!post.isEmpty) = true from by cases post with | nil => exact absurd rfl hne | cons _ _ => rfl]
  refine ite_t ?_
  refine Execs_cons ?_
  refine Expr_stmt ?_
  refine Append_ ?_
  refine Name_local (by walk_at "rx m") ⟨ch, rfl, ⟨_, by walk_at "rx m"⟩, ?_⟩
  refine Name_local (by walk_at "rx m") ?_
  refine ⟨vs, _, by omega, by walk_at "rx ud", (fun b e => nomatch e), ?_⟩
  refine Execs_nil ?_
  exact h _ _
set_option maxHeartbeats 1000000 in
theorem chunk_aug (hcs : cs.length ≤ 1000) {e : Nat} (he : e ≤ cs.length) {p : List Nat} (hp : p.length ≤ 100) {t : Tok} {D : Led} {ti tn tj : Tok} {c stuff k chunk : Option Value} {Q : Flow → AS → Prop}
    (h : ∀ t chunk, W C ⟨trLoc cs tp tq res add e ti tn c (some (.int e tj)) stuff (some (.ref ch)) k chunk, (ch, listP [.str (T (p ++ [45])) t]) :: D, g⟩ (execs (chunkBody.drop 5) (trEnv C.L fa cd)) Q) :
    W C ⟨trLoc cs tp tq res add e ti tn c (some (.int e tj)) stuff (some (.ref ch)) k chunk, (ch, listP [.str (T p) t]) :: D, g⟩ (execs (chunkBody.drop 3) (trEnv C.L fa cd)) Q := by
  change W C _ (execs (_ :: _ :: _) _) _
  refine Execs_cons ?_
  refine Assign_Name ?_
  refine Sub_ ?_
  refine Name_local (by walk_at "rx m") ?_
  refine Slice_ ?_
  refine Part_some ?_
  refine Name_local (by walk_at "rx m") ?_
  refine Part_some ?_
  refine Name_local (by walk_at "rx m") ?_
  refine Part_none fun sl => ?_
  refine Slice_nat (i := e) (j := e) (by walk_at "rx m") (Nat.le_refl _) (by omega) (by omega) fun t4 => ?_
  rw [show (cs.drop e).take (e - e) = [] from by simp]
  refine Store_local (by walk_at "rx u") ?_
  refine W.weak (σ' := ⟨_, (ch, listP [.str (T p) t]) :: D, g⟩) ?_ rfl (List.sublist_cons_self _ _) rfl
  refine Execs_cons ?_
  refine If_ ?_
  refine Test_plain ?_
  refine Name_local (by walk_at "rx m") ?_
  refine Truthy_T (by simp) ?_
  refine ite_f ?_
  refine Execs_cons ?_
  refine Aug_last (a := ch) (its := []) (x := p) (y := [45]) (t := t) (Name_local (by walk_at "rx m") ⟨rfl, rfl⟩) (by walk_at "rx m") (Neg_ (Const_int fun u => Neg_int fun u' => ⟨⟨u', rfl⟩, rfl⟩)) (Const_str fun u => ⟨⟨u, ?_⟩, rfl⟩) (by decide) (by simp; omega) fun t' => ⟨_, by walk_at "rx ud", ?_⟩
  · exact congrArg (Value.str · u) (by kernel_rfl)
  refine Execs_nil ?_
  exact h _ _
set_option maxHeartbeats 1000000 in
theorem br_join (K : TrK C mg mb cd P) (hln : mg (S "len") = none) (hlb : mb (S "len") = some (.builtin "len")) (hr : mg (S "range") = none) (hb : mb (S "range") = some (.type "range")) (R : Room C.A (kk + 2)) (hg : AllBare g)
    {vs : List Value} {css : List (List Nat)} (hc : Chs css) (hv : Paired StrIs vs css) (hch : ∀ x ∈ css, Chunk x) {b : List Nat} (hj : Txt.join (S "-") (css.map fun cs => T (strike cs)) = T b) {D : Led} (hP : (P, tabP) ∈ D) {i : Nat} {ti tn : Tok} {c j stuff k chunk : Option Value} {Q : Flow → AS → Prop}
    (h : ∀ t k g', AllBare g' → Q .next ⟨trLoc cs tp tq res add i ti tn c j (some (.str (T b) t)) (some (.ref ch)) k chunk, D, g'⟩) :
    W C ⟨trLoc cs tp tq res add i ti tn c j stuff (some (.ref ch)) k chunk, (ch, listP vs) :: D, g⟩ (execs (chunkBody.drop 5) (trEnv C.L fa cd)) Q := by
  have hl2 : css.length ≤ 2 := by cases hc <;> simp
  change W C _ (execs (_ :: _) _) _
  refine Execs_cons ?_
  refine br_for (by rfl) K.G hln hlb hr hb R.handled hc hv (fun x hx => by have := (hch x hx).len; omega) fun k' => ?_
  dsimp only
  refine Execs_cons ?_
  refine Assign_Name ?_
  refine Join_gen (c := cd) (css := css) K.G K.hd K.hb (.tail _ hP) R (List.Mem.head _) (by walk_at "rx m") hv hch (by omega) hg fun t g' hg' => ?_
  rw [hj]
  refine Store_local (by walk_at "rx u") ?_
  exact Execs_end (List.sublist_cons_self _ _) (h t k' g' hg')
end
inductive ChunkCase (K : Nat) : List Nat → List Nat → Prop
  | miss {b b'} : (∀ q, K ≤ q → b[q]? ≠ some 45) → Chunk b → Txt.join (S "-") [T (strike b)] = T b' → ChunkCase K b b'
  | hit1 {p b'} : p.length = K → Chunk (p ++ [45]) → Txt.join (S "-") [T (strike (p ++ [45]))] = T b' → ChunkCase K (p ++ [45]) b'
  | hit2 {p : List Nat} {y x b'} : p.length = K → p.getLast? = some x → ¬ y < x → Chunk p → Chunk [y] → Txt.join (S "-") [T (strike p), T (strike [y])] = T b' → ChunkCase K (p ++ [45, y]) b'
section
variable {C : Cx} {g : Array GenState} {fa cd P : Addr} {cs : List Nat} {tp tq : Tok} {res add : Addr} {mg mb : Str → Option Value} {ea : Addr} {kk : Nat}
set_option maxHeartbeats 1000000 in
theorem br_chunks (K : TrK C mg mb cd P) (hln : mg (S "len") = none) (hlb : mb (S "len") = some (.builtin "len")) (hr : mg (S "range") = none) (hb : mb (S "range") = some (.type "range")) (R : Room C.A (kk + 2)) (hg : AllBare g) (hcs : cs.length ≤ 1000)
    {i c0 : Nat} {r post b' : List Nat} (hd : cs.drop i = (c0 :: r) ++ 93 :: post) (hcase : ChunkCase (if c0 = 33 then 2 else 1) (c0 :: r) b') {vs : List Value} {ti tn tj : Tok} {c stuff chunks k chunk : Option Value} {Q : Flow → AS → Prop}
    (h : ∀ i' ti t chunks k chunk g', AllBare g' → Q .next ⟨trLoc cs tp tq res add i' ti tn c (some (.int (i + (c0 :: r).length : Nat) tj)) (some (.str (T b') t)) chunks k chunk, trLed res add P vs, g'⟩) :
    W C ⟨trLoc cs tp tq res add i ti tn c (some (.int (i + (c0 :: r).length : Nat) tj)) stuff chunks k chunk, trLed res add P vs, g⟩ (execs chunkBody (trEnv C.L fa cd)) Q := by
  obtain ⟨he, hel, hin⟩ := in_body hd
  have hi0 := hin 0 c0 rfl
  have hbl : (c0 :: r).length = r.length + 1 := rfl
  generalize hE : i + (c0 :: r).length = e at *
  generalize hK : (if c0 = 33 then 2 else 1) = KK at hcase
  have takeb : (cs.drop i).take (e - i) = c0 :: r := by
    rw [hd, show e - i = (c0 :: r).length from by omega, List.take_left']; rfl
  have rest : ∀ (ch : Addr) (tk : Tok), W C ⟨trLoc cs tp tq res add i ti tn c (some (.int e tj)) stuff (some (.ref ch)) (some (.int (i + KK : Nat) tk)) chunk, (ch, listP []) :: trLed res add P vs, g⟩ (execs (chunkBody.drop 2) (trEnv C.L fa cd)) Q := by
    intro ch tk
    change W C _ (execs (_ :: _ :: _ :: _ :: _) _) _
    refine Execs_cons ?_
    refine While_ ?_
    have fin : ∀ {i' : Nat} {vs' : List Value} {css : List (List Nat)} {k chunk : Option Value} {ti : Tok}, Chs css → Paired StrIs vs' css → (∀ x ∈ css, Chunk x) → Txt.join (S "-") (css.map fun cs => T (strike cs)) = T b' →
        W C ⟨trLoc cs tp tq res add i' ti tn c (some (.int e tj)) stuff (some (.ref ch)) k chunk, (ch, listP vs') :: trLed res add P vs, g⟩ (execs (chunkBody.drop 5) (trEnv C.L fa cd)) Q := by
      intro i' vs' css k chunk ti hc hv hch hj
      exact br_join K hln hlb hr hb R hg hc hv hch hj (by walk_at "rx m") fun t k g' hg' => h _ _ _ _ _ _ _ hg'
    generalize hBB : c0 :: r = bb at hcase
    cases hcase with
    | miss hno hch hj =>
      subst hBB
      refine find_miss (by rfl) (by omega) (fun p h1 h2 hp => ?_) fun tk' => ?_
      · have hq : (c0 :: r)[p - i]? = some (c0 :: r)[p - i] := List.getElem?_eq_getElem (by omega)
        have h3 := hin _ _ hq
        rw [show i + (p - i) = p from by omega, hp] at h3
        rw [← h3] at hq
        exact hno (p - i) (by omega) hq
      · refine chunk_app hcs (by omega) (by omega) takeb (by simp) (by simp) fun t chunk => ?_
        exact fin (css := [c0 :: r]) .one (.cons ⟨_, _, rfl, rfl⟩ .nil) (fun x hx => by cases List.mem_singleton.mp hx; exact hch) hj
    | @hit1 p _ hp hch hj =>
      have hpl : p.length + 1 = r.length + 1 := by rw [← hbl, hBB]; simp
      have hat : cs[i + KK]? = some 45 := by
        rw [← hp]
        refine hin p.length 45 ?_
        rw [hBB]; simp
      have hdp : cs.drop i = p ++ (45 :: 93 :: post) := by rw [hd, hBB]; simp
      refine find_hit (by rfl) hcs (by omega) (by omega) (by omega) hat fun ti' tk' t => ?_
      refine find_miss (by rfl) (by omega) (fun q h1 h2 => by omega) fun tk'' => ?_
      have e1 : (cs.drop i).take (i + KK - i) = p := by rw [hdp, show i + KK - i = p.length from by omega, List.take_left']; rfl
      rw [e1]
      have e2 : i + KK + 1 = e := by omega
      rw [e2]
      have hchl := hch.len
      simp at hchl
      refine chunk_aug hcs (by omega) (by omega) fun t' chunk => ?_
      exact fin (css := [p ++ [45]]) .one (.cons ⟨_, _, rfl, rfl⟩ .nil) (fun x hx => by cases List.mem_singleton.mp hx; exact hch) hj
    | @hit2 p y x _ hp hx hyx hch1 hch2 hj =>
      have hpl : p.length + 2 = r.length + 1 := by rw [← hbl, hBB]; simp
      have hat : cs[i + KK]? = some 45 := by
        rw [← hp]
        refine hin p.length 45 ?_
        rw [hBB]; simp
      have hdp : cs.drop i = p ++ (45 :: y :: 93 :: post) := by rw [hd, hBB]; simp
      refine find_hit (by rfl) hcs (by omega) (by omega) (by omega) hat fun ti' tk' t => ?_
      refine find_miss (by rfl) (by omega) (fun q h1 h2 => by omega) fun tk'' => ?_
      have e1 : (cs.drop i).take (i + KK - i) = p := by rw [hdp, show i + KK - i = p.length from by omega, List.take_left']; rfl
      rw [e1]
      have e2 : (cs.drop (i + KK + 1)).take (e - (i + KK + 1)) = [y] := by
        rw [show e - (i + KK + 1) = 1 from by omega, show i + KK + 1 = i + (p.length + 1) from by omega, ← List.drop_drop, hdp]
        rw [show p ++ 45 :: y :: 93 :: post = (p ++ [45]) ++ (y :: 93 :: post) from by simp, show p.length + 1 = (p ++ [45]).length from by simp, List.drop_left']
        · rfl
        · rfl
      refine chunk_app hcs (by omega) (by omega) e2 (by simp) (by simp) fun t' chunk => ?_
      exact fin (css := [p, [y]]) (.two hx rfl hyx) (.cons ⟨_, _, rfl, rfl⟩ (.cons ⟨_, _, rfl, rfl⟩ .nil)) (fun x hx => by
        rcases List.mem_cons.mp hx with rfl | hx
        · exact hch1
        · cases List.mem_singleton.mp hx; exact hch2) hj
  change W C _ (execs (_ :: _ :: _) _) _
  refine Execs_cons ?_
  refine Assign_Name ?_
  refine List_disp ?_
  refine Args_nil ⟨show (0 : Nat) ≤ sizeLine from by decide, fun ch => ?_⟩
  refine Store_local (by walk_at "rx u") ?_
  refine Execs_cons ?_
  refine Assign_Name ?_
  refine IfExp_ ?_
  refine Test_cmp ?_
  refine Sub_ ?_
  refine Name_local (by walk_at "rx m") ?_
  refine Name_local (by walk_at "rx m") ?_
  refine Item_str hi0 (by omega) fun t1 => ?_
  refine Const_str fun t2 => ?_
  refine Eq_ch (b := 33) ⟨_, rfl, ?_⟩
  refine ite_b (fun h33 => ?_) (fun h33 => ?_)
  · have : KK = 2 := by rw [← hK, if_pos (by simpa using h33)]
    subst this
    refine BinOp_ ?_
    refine Name_local (by walk_at "rx m") ?_
    refine Const_int fun t3 => ?_
    refine Add_int fun t4 => ?_
    refine Store_local (by walk_at "rx u") ?_
    exact rest ch t4
  · have : KK = 1 := by rw [← hK, if_neg (by simpa using h33)]
    subst this
    refine BinOp_ ?_
    refine Name_local (by walk_at "rx m") ?_
    refine Const_int fun t3 => ?_
    refine Add_int fun t4 => ?_
    refine Store_local (by walk_at "rx u") ?_
    exact rest ch t4
end
end
section
open PySem.Calls PyProof.V PySem.Spec PySem.SeqAt
open StrLaws
inductive BodyCase : List Nat → List Nat → Prop
  | plain {b} : 45 ∉ b → (Builtin.Str.occurrences (T b) (Str.ofString "\\") 0 (T b).length ((T b).length + 1)).isEmpty = true → b.length ≤ 100 → BodyCase b b
  | chunks {c0 r b'} : 45 ∈ c0 :: r → ChunkCase (if c0 = 33 then 2 else 1) (c0 :: r) b' → BodyCase (c0 :: r) b'
inductive SegRel : List Nat → List Nat → Prop
  | q : SegRel [63] [46]
  | sign {c} : c ∈ [45, 112, 99, 100, 98, 108, 115, 114, 119, 120, 83, 116, 84] → SegRel [c] (escOf c)
  | br {c0 r b'} : (∀ x ∈ c0 :: r, x ≠ 93) → (c0 = 33 → r ≠ []) → BodyCase (c0 :: r) b' → b' ∈ subList → SegRel (91 :: (c0 :: r) ++ [93]) (91 :: barOf b' ++ [93])
/-- what the text holds for _translate -/
structure TrH (C : Cx) (mg mb : Str → Option Value) (ea cd P : Addr) : Prop extends TrK C mg mb cd P where
  F : Def C.h₀ mg 27 (S "escape") ea
  hin : mg (S "isinstance") = none
  hib : mb (S "isinstance") = some (.builtin "isinstance")
  hsn : mg (S "str") = none
  hsb : mb (S "str") = some (.type "str")
  ET : EscTab C mg
  hln : mg (S "len") = none
  hlb : mb (S "len") = some (.builtin "len")
  hr : mg (S "range") = none
  hrb : mb (S "range") = some (.type "range")
section
variable {C : Cx} {g : Array GenState} {fa cd P : Addr} {cs : List Nat} {tp tq : Tok} {res add : Addr} {mg mb : Str → Option Value} {ea : Addr} {kk : Nat}
set_option maxHeartbeats 1000000 in
theorem turn_b {target : PySem.Expr} {body orelse : List Stmt} {pos : Pos} (hs : trLoop = .While target body orelse pos) (H : TrH C mg mb ea cd P) (R : Room C.A (kk + 2)) (hg : AllBare g) (hcs : cs.length ≤ 1000) {i c0 : Nat} {r post b' : List Nat} (hd : cs.drop i = 91 :: (c0 :: r) ++ 93 :: post)
    (h93 : ∀ x ∈ c0 :: r, x ≠ 93) (h33 : c0 = 33 → r ≠ []) (hb : BodyCase (c0 :: r) b') (hb' : b' ∈ subList) {vs : List Value} (hvs : vs.length ≤ 100) {ti tn : Tok} {c j stuff chunks k chunk : Option Value} {Q : Flow → AS → Prop}
    (h : ∀ ti c j stuff chunks k chunk t g', AllBare g' → Q .next ⟨trLoc cs tp tq res add (i + (91 :: (c0 :: r) ++ [93]).length) ti tn c j stuff chunks k chunk, trLed res add P (vs ++ [.str (T (91 :: barOf b' ++ [93])) t]), g'⟩) :
    W C ⟨trLoc cs tp tq res add i ti tn c j stuff chunks k chunk, trLed res add P vs, g⟩ (execs body (trEnv C.L fa cd)) Q := by
  have hi : cs[i]? = some 91 := by
    have := congrArg (·[0]?) hd
    simpa using this
  have hd1 : cs.drop (i + 1) = (c0 :: r) ++ 93 :: post := by rw [← List.drop_drop, hd]; rfl
  obtain ⟨he, hel, hin⟩ := in_body hd1
  have takeb : (cs.drop (i + 1)).take (i + 1 + (c0 :: r).length - (i + 1)) = c0 :: r := by
    rw [hd1, show i + 1 + (c0 :: r).length - (i + 1) = (c0 :: r).length from by omega, List.take_left']; rfl
  have hend : i + (91 :: (c0 :: r) ++ [93]).length = i + 1 + (c0 :: r).length + 1 := by simp; omega
  rw [hend] at h
  refine turn_head hs hcs hi (by decide) (by decide) fun t ti => ?_
  refine br_front hcs hd1 h93 h33 fun tj => ?_
  have hu : C.A.units ≤ 9000 := by have := R.units; omega
  have tail : ∀ {i' : Nat} {ti ts : Tok} {chunks k chunk : Option Value} {g' : Array GenState}, AllBare g' → W C ⟨trLoc cs tp tq res add i' ti tn (some (.str (strOf 91) t)) (some (.int (i + 1 + (c0 :: r).length : Nat) tj)) (some (.str (T b') ts)) chunks k chunk, trLed res add P vs, g'⟩ (execs (brElse.drop 2) (trEnv C.L fa cd)) fun f σ' => f = .next ∧ Q .next σ' :=
    fun hg' => br_tail H.toTrK hu hcs hb' hvs fun ti stuff t => h _ _ _ _ _ _ _ _ _ hg'
  change W C _ (execs (_ :: _ :: _) _) _
  refine Execs_cons ?_
  refine Assign_Name ?_
  refine Sub_ ?_
  refine Name_local (by walk_at "rx m") ?_
  refine Slice_ ?_
  refine Part_some ?_
  refine Name_local (by walk_at "rx m") ?_
  refine Part_some ?_
  refine Name_local (by walk_at "rx m") ?_
  refine Part_none fun sl => ?_
  refine Slice_nat (i := i + 1) (j := i + 1 + (c0 :: r).length) (by walk_at "rx m") (by omega) (by omega) (by omega) fun t4 => ?_
  rw [takeb]
  refine Store_local (by walk_at "rx u") ?_
  refine W.weak (σ' := ⟨_, trLed res add P vs, g⟩) ?_ rfl (List.sublist_cons_self _ _) rfl
  refine Execs_cons ?_
  refine If_ ?_
  refine Test_cmp ?_
  refine Const_str fun t5 => ?_
  refine Name_local (by walk_at "rx m") ?_
  refine NotIn_ch (c := 45) ⟨_, rfl, ?_⟩
  generalize hBB : c0 :: r = bb at hb
  cases hb with
  | plain hno hnb hlen =>
    subst hBB
    rw [show (!decide (45 ∈ c0 :: r)) = true from by simpa using hno]
    refine ite_t ?_
    refine Execs_cons ?_
    refine Assign_Name ?_
    refine Repl1 (by walk_at "rx m") hnb (by rw [len_T, show (Str.ofString "\\\\").length = 2 from by kernel_rfl]; omega) fun t6 => ?_
    refine Store_local (by walk_at "rx u") ?_
    exact Execs_nil (tail hg)
  | @chunks c1 r1 _ hyes hcase =>
    cases hBB
    rw [show (!decide (45 ∈ c0 :: r)) = false from by rw [decide_eq_true hyes]; rfl]
    refine ite_f ?_
    refine br_chunks H.toTrK H.hln H.hlb H.hr H.hrb R hg hcs hd1 hcase fun i' ti' t6 chunks k chunk g' hg' => ?_
    exact tail hg'
set_option maxHeartbeats 1000000 in
theorem tr_loop {target : PySem.Expr} {body orelse : List Stmt} {pos : Pos} (hs : trLoop = .While target body orelse pos) (H : TrH C mg mb ea cd P) (R : Room C.A (kk + 2)) (hcs : cs.length ≤ 1000) {tn : Tok} {Q : Flow → AS → Prop}
    {segs parts : List (List Nat)} (hp : Paired SegRel segs parts) :
    ∀ (i : Nat) (vs : List Value) (done : List (List Nat)) (g : Array GenState) (ti : Tok) (c j stuff chunks k chunk : Option Value), cs.drop i = segs.flatten → i ≤ cs.length → Paired StrIs vs done → vs.length + segs.length ≤ 100 → AllBare g →
      (∀ vs' ti c j stuff chunks k chunk g', Paired StrIs vs' (done ++ parts) → AllBare g' → Q .next ⟨trLoc cs tp tq res add cs.length ti tn c j stuff chunks k chunk, trLed res add P vs', g'⟩) →
      WWhile C ⟨trLoc cs tp tq res add i ti tn c j stuff chunks k chunk, trLed res add P vs, g⟩ target body orelse (trEnv C.L fa cd) Q := by
  have hs' := hs
  cases hs'
  induction hp with
  | nil =>
    intro i vs done g ti c j stuff chunks k chunk hd hi hv hz hg h
    have hl : cs.length ≤ i := by simpa using hd
    have hil : i = cs.length := by omega
    subst hil
    refine WWhile.step ?_
    refine Test_cmp ?_
    refine Name_local (by walk_at "rx m") ?_
    refine Name_local (by walk_at "rx m") ?_
    refine Lt_int ⟨_, rfl, ?_⟩
    rw [show decide ((cs.length : Int) < (cs.length : Int)) = false from decide_eq_false (by omega)]
    refine ite_f ?_
    exact Execs_nil (h vs ti c j stuff chunks k chunk g (by simpa using hv) hg)
  | @cons seg part segs parts hsp hp ih =>
    intro i vs done g ti c j stuff chunks k chunk hd hi hv hz hg h
    rw [List.length_cons] at hz
    have hne : 0 < seg.length := by cases hsp <;> simp
    have hd' : cs.drop (i + seg.length) = segs.flatten := by rw [← List.drop_drop, hd]; simp
    have hlt : i + seg.length ≤ cs.length := by
      have := congrArg List.length hd
      simp at this; omega
    refine WWhile.step ?_
    refine Test_cmp ?_
    refine Name_local (by walk_at "rx m") ?_
    refine Name_local (by walk_at "rx m") ?_
    refine Lt_int ⟨_, rfl, ?_⟩
    rw [show decide ((i : Int) < (cs.length : Int)) = true from decide_eq_true (by omega)]
    refine ite_t ?_
    have next : ∀ {ti c j stuff chunks k chunk} {v : Value} {g' : Array GenState}, AllBare g' → StrIs v part → WWhile C ⟨trLoc cs tp tq res add (i + seg.length) ti tn c j stuff chunks k chunk, trLed res add P (vs ++ [v]), g'⟩ _ _ _ (trEnv C.L fa cd) Q := fun hg' hv' =>
      ih (i + seg.length) _ (done ++ [part]) _ _ _ _ _ _ _ _ hd' hlt (paired_snoc hv' hv) (by simp; omega) hg' fun vs' ti c j stuff chunks k chunk g' h1 h2 => h vs' ti c j stuff chunks k chunk g' (by simpa using h1) h2
    cases hsp with
    | q =>
      have hi0 : cs[i]? = some 63 := by
        have := congrArg (·[0]?) hd
        simpa using this
      exact turn_q hs hcs hi0 (by omega) fun ti c => next hg ⟨_, _, rfl, by kernel_rfl⟩
    | @sign ch hch =>
      have hi0 : cs[i]? = some ch := by
        have := congrArg (·[0]?) hd
        simpa using this
      exact turn_c (kk := kk) hs H.G H.F H.hin H.hib H.hsn H.hsb H.ET (R.less (by omega)) hcs hi0 hch (by omega) fun ti c t => next hg ⟨_, _, rfl, rfl⟩
    | @br c0 r b' h93 h33 hb hb' =>
      have hd2 : cs.drop i = 91 :: (c0 :: r) ++ 93 :: segs.flatten := by rw [hd]; simp
      exact turn_b hs H R hg hcs hd2 h93 h33 hb hb' (by omega) fun ti c j stuff chunks k chunk t g' hg' => next hg' ⟨_, _, rfl, rfl⟩
end
end
section
open PySem.Calls PyProof.V PySem.Spec PySem.SeqAt
open StrLaws
theorem EscTab.to {C C' : Cx} {mg : Str → Option Value} (x : EscTab C mg) (hp : C'.prog = C.prog) (hw : C'.w = C.w) (hk : ∀ b o, C.h₀.get? b = some o → C'.h₀.get? b = some o) : EscTab C' mg := by
  obtain ⟨ma, D0, hm, hT, r⟩ := x.tab
  refine ⟨ma, D0, hm, ?_, r⟩
  rw [hp, hw]
  exact hT.keep hk
theorem Kn.to {C C' : Cx} {a : Addr} {P : Obj → Prop} (k : Kn C [] a P) (hk : ∀ b o, C.h₀.get? b = some o → C'.h₀.get? b = some o) : Kn C' [] a P := by
  rcases k with ⟨o, h, hp⟩ | h
  · exact .inl ⟨o, hk _ _ h, hp⟩
  · cases h
theorem TrH.to {C C' : Cx} {mg mb : Str → Option Value} {ea cd P : Addr} (x : TrH C mg mb ea cd P) (hp : C'.prog = C.prog) (hw : C'.w = C.w) (hk : ∀ b o, C.h₀.get? b = some o → C'.h₀.get? b = some o) : TrH C' mg mb ea cd P where
  G := x.G.keeps hk
  hd := x.hd.keeps hk
  hb := built_keeps x.hb hk
  pat := by obtain ⟨pa, pp, h1, h2, h3⟩ := x.pat; exact ⟨pa, pp, h1, h2.to hk, h3.to hk⟩
  F := x.F.keeps hk
  hin := x.hin
  hib := x.hib
  hsn := x.hsn
  hsb := x.hsb
  ET := x.ET.to hp hw hk
  hln := x.hln
  hlb := x.hlb
  hr := x.hr
  hrb := x.hrb
abbrev trLoc0 (cs : List Nat) (tp tq : Tok) (res add i n : Option Value) : Loc :=
  [(S "pat", some (.str (T cs) tp)), (S "STAR", some .none), (S "QUESTION_MARK", some (.str (S ".") tq)), (S "res", res), (S "add", add), (S "i", i), (S "n", n),
   (S "c", none), (S "j", none), (S "stuff", none), (S "chunks", none), (S "k", none), (S "chunk", none)]
section
variable {C : Cx} {l : Loc} {D : Led} {g : Array GenState} {mg mb : Str → Option Value} {ta ea cd P : Addr} {cs : List Nat} {tp tq : Tok} {k : Nat} {Q : Value → AS → Prop}
set_option maxHeartbeats 1000000 in
theorem translate_call (H : TrH C mg mb ea cd P) (F : FnCd C.h₀ mg (S "_translate") (paramsAt 29) (bodyAt 29) (scopeAt 29) ta cd) (hP : (P, tabP) ∈ D) (R : Room C.A (k + 3)) (hg : AllBare g)
    {segs parts : List (List Nat)} (hp : Paired SegRel segs parts) (hcs : cs = segs.flatten) (hcz : cs.length ≤ 1000) (hsz : segs.length ≤ 100)
    (h : ∀ res vs g', Paired StrIs vs parts → AllBare g' → Q (.ref res) ⟨l, (res, listP vs) :: D, g'⟩) : W C ⟨l, D, g⟩ (call (.ref ta) [.str (T cs) tp, .none, .str (S ".") tq]) Q := by
  refine Call_ghost (l' := trLoc0 cs tp tq none none none none) (binds := [(S "pat", .str (T cs) tp), (S "STAR", .none), (S "QUESTION_MARK", .str (S ".") tq)]) H.G F H.hd hP R (fun _ _ _ => by rfl) ?_ ?_ (by simp only [List.map_cons, List.map_nil]; decide +kernel) ?_
  · intro x hx
    simp only [List.mem_cons, List.not_mem_nil, or_false] at hx
    rcases hx with rfl | rfl | rfl <;> kernel_rfl
  · intro p hp
    simp only [List.mem_cons, List.not_mem_nil, or_false] at hp
    rcases hp with rfl | rfl | rfl | rfl | rfl | rfl | rfl | rfl | rfl | rfl | rfl | rfl | rfl <;> kernel_rfl
  intro C' Su R' G' hd'
  have H' : TrH C' mg mb ea cd P := H.to Su.prog Su.w Su.keep
  change W C' _ (execs (_ :: _ :: _ :: _ :: _ :: _) _) _
  refine Execs_cons ?_
  refine Assign_Name ?_
  refine List_disp ?_
  refine Args_nil ⟨show (0 : Nat) ≤ sizeLine from by decide, fun res => ?_⟩
  refine Store_local (by walk_at "rx u") ?_
  refine Execs_cons ?_
  refine Assign_Name ?_
  refine Attr_append (f := res) ?_
  refine Name_local (by walk_at "rx m") ?_
  refine ⟨rfl, by walk_at "rx m", fun add => ?_⟩
  refine Store_local (by walk_at "rx u") ?_
  refine W.perm (D' := trLed res add P []) ?_ (List.Perm.swap ..)
  refine Execs_cons ?_
  refine Assign_swap2 R'.handled ?_
  refine Tuple_disp ?_
  refine Args_cons ?_
  refine Const_int fun t1 => ?_
  refine Args_cons ?_
  refine Call_bi G' H.hln H.hlb ?_
  refine Args_cons ?_
  refine Name_local (by walk_at "rx m") ?_
  refine Args_nil ?_
  refine Len_T (by omega) fun tn => ?_
  refine Args_nil ⟨show (2 : Nat) ≤ sizeLine from by decide, fun tu => ?_⟩
  refine ⟨tu, .int 0 t1, .int cs.length tn, rfl, fun s H => H.tup (its := [.int 0 t1, .int cs.length tn]) (by walk_at "rx m"), _, _, by walk_at "rx u", by walk_at "rx u", ?_⟩
  refine W.weak (σ' := ⟨_, trLed res add P [], g⟩) ?_ rfl (List.sublist_cons_self _ _) rfl
  refine Execs_cons ?_
  refine While_ ?_
  refine tr_loop (kk := k) (by rfl) H' R' hcz hp 0 [] [] g t1 none none none none none none (by rw [hcs]; rfl) (Nat.zero_le _) .nil (by simpa using hsz) hg fun vs ti c j stuff chunks kv chunk g' hv hg' => ?_
  dsimp only
  refine Execs_cons ?_
  refine Assert_ R'.handled ?_
  refine Test_cmp ?_
  refine Name_local (by walk_at "rx m") ?_
  refine Name_local (by walk_at "rx m") ?_
  refine Eq_int ⟨_, rfl, by simp, ?_⟩
  refine Execs_cons ?_
  refine Return_ ?_
  refine Name_local (by walk_at "rx m") ?_
  exact ⟨[(res, listP vs)], [(res, listP vs), (P, tabP)], by walk_at "rx s", List.Perm.swap .., h res vs g' (by simpa using hv) hg'⟩
end
end
section
open PySem.Calls PyProof.V PySem.Spec PySem.SeqAt
open StrLaws
theorem miss2 {a b : Nat} (h : b ≠ 45) : ∀ q, 1 ≤ q → [a, b][q]? ≠ some 45 := by
  intro q hq e
  match q, hq with
  | 1, _ => exact h (by simpa using e)
  | q + 2, _ => simp at e
theorem miss3 {a b c : Nat} (h : c ≠ 45) : ∀ q, 2 ≤ q → [a, b, c][q]? ≠ some 45 := by
  intro q hq e
  match q, hq with
  | 2, _ => exact h (by simpa using e)
  | q + 3, _ => simp at e
theorem chunk0 : Chunk [115] := ⟨by kernel_rfl, by kernel_rfl, by decide⟩
theorem chunk1 : Chunk [116] := ⟨by kernel_rfl, by kernel_rfl, by decide⟩
theorem chunk2 : Chunk [120, 45] := ⟨by kernel_rfl, by kernel_rfl, by decide⟩
theorem chunk3 : Chunk [120] := ⟨by kernel_rfl, by kernel_rfl, by decide⟩
theorem chunk4 : Chunk [33, 120, 45] := ⟨by kernel_rfl, by kernel_rfl, by decide⟩
theorem chunk5 : Chunk [33, 45, 83] := ⟨by kernel_rfl, by kernel_rfl, by decide⟩
theorem chunk6 : Chunk [33, 45, 84] := ⟨by kernel_rfl, by kernel_rfl, by decide⟩
theorem chunk7 : Chunk [33, 83] := ⟨by kernel_rfl, by kernel_rfl, by decide⟩
theorem chunk8 : Chunk [33, 84] := ⟨by kernel_rfl, by kernel_rfl, by decide⟩
theorem chunk9 : Chunk [45, 83] := ⟨by kernel_rfl, by kernel_rfl, by decide⟩
theorem chunk10 : Chunk [45, 84] := ⟨by kernel_rfl, by kernel_rfl, by decide⟩
theorem chunk11 : Chunk [45] := ⟨by kernel_rfl, by kernel_rfl, by decide⟩
theorem chunk12 : Chunk [83] := ⟨by kernel_rfl, by kernel_rfl, by decide⟩
theorem chunk13 : Chunk [84] := ⟨by kernel_rfl, by kernel_rfl, by decide⟩
theorem row0 : SegRel [63] [46] ∧ PartRel [46] (true, []) := ⟨.q, .dot⟩
theorem row1 : SegRel [45] [92, 45] ∧ PartRel [92, 45] (false, [(45, 45)]) := ⟨.sign (c := 45) (by decide), .short (c := 45) (by decide) (by decide) rfl (by decide)⟩
theorem row2 : SegRel [112] [112] ∧ PartRel [112] (false, [(112, 112)]) := ⟨.sign (c := 112) (by decide), .short (c := 112) (by decide) (by decide) rfl (by decide)⟩
theorem row3 : SegRel [99] [99] ∧ PartRel [99] (false, [(99, 99)]) := ⟨.sign (c := 99) (by decide), .short (c := 99) (by decide) (by decide) rfl (by decide)⟩
theorem row4 : SegRel [100] [100] ∧ PartRel [100] (false, [(100, 100)]) := ⟨.sign (c := 100) (by decide), .short (c := 100) (by decide) (by decide) rfl (by decide)⟩
theorem row5 : SegRel [98] [98] ∧ PartRel [98] (false, [(98, 98)]) := ⟨.sign (c := 98) (by decide), .short (c := 98) (by decide) (by decide) rfl (by decide)⟩
theorem row6 : SegRel [108] [108] ∧ PartRel [108] (false, [(108, 108)]) := ⟨.sign (c := 108) (by decide), .short (c := 108) (by decide) (by decide) rfl (by decide)⟩
theorem row7 : SegRel [115] [115] ∧ PartRel [115] (false, [(115, 115)]) := ⟨.sign (c := 115) (by decide), .short (c := 115) (by decide) (by decide) rfl (by decide)⟩
theorem row8 : SegRel [114] [114] ∧ PartRel [114] (false, [(114, 114)]) := ⟨.sign (c := 114) (by decide), .short (c := 114) (by decide) (by decide) rfl (by decide)⟩
theorem row9 : SegRel [119] [119] ∧ PartRel [119] (false, [(119, 119)]) := ⟨.sign (c := 119) (by decide), .short (c := 119) (by decide) (by decide) rfl (by decide)⟩
theorem row10 : SegRel [120] [120] ∧ PartRel [120] (false, [(120, 120)]) := ⟨.sign (c := 120) (by decide), .short (c := 120) (by decide) (by decide) rfl (by decide)⟩
theorem row11 : SegRel [83] [83] ∧ PartRel [83] (false, [(83, 83)]) := ⟨.sign (c := 83) (by decide), .short (c := 83) (by decide) (by decide) rfl (by decide)⟩
theorem row12 : SegRel [116] [116] ∧ PartRel [116] (false, [(116, 116)]) := ⟨.sign (c := 116) (by decide), .short (c := 116) (by decide) (by decide) rfl (by decide)⟩
theorem row13 : SegRel [84] [84] ∧ PartRel [84] (false, [(84, 84)]) := ⟨.sign (c := 84) (by decide), .short (c := 84) (by decide) (by decide) rfl (by decide)⟩
theorem row14 : SegRel [91, 63, 93] [91, 63, 93] ∧ PartRel [91, 63, 93] (false, [(63, 63)]) := ⟨@SegRel.br 63 [] [63] (by decide) (by decide) (.plain (by decide) (by kernel_rfl) (by decide)) (by decide), (.plain (by decide) (.one (.plain 63 (by decide)) (by decide) (by intro y r h; simp at h) .nil))⟩
theorem row15 : SegRel [91, 33, 63, 93] [91, 94, 63, 93] ∧ PartRel [91, 94, 63, 93] (true, [(63, 63)]) := ⟨@SegRel.br 33 [63] [33, 63] (by decide) (by decide) (.plain (by decide) (by kernel_rfl) (by decide)) (by decide), (.barred (.one (.plain 63 (by decide)) (by decide) (by intro y r h; simp at h) .nil))⟩
theorem row16 : SegRel [91, 115, 83, 93] [91, 115, 83, 93] ∧ PartRel [91, 115, 83, 93] (false, [(115, 115), (83, 83)]) := ⟨@SegRel.br 115 [83] [115, 83] (by decide) (by decide) (.plain (by decide) (by kernel_rfl) (by decide)) (by decide), (.plain (by decide) (.one (.plain 115 (by decide)) (by decide) (by intro y r h; simp at h) (.one (.plain 83 (by decide)) (by decide) (by intro y r h; simp at h) .nil)))⟩
theorem row17 : SegRel [91, 116, 84, 93] [91, 116, 84, 93] ∧ PartRel [91, 116, 84, 93] (false, [(116, 116), (84, 84)]) := ⟨@SegRel.br 116 [84] [116, 84] (by decide) (by decide) (.plain (by decide) (by kernel_rfl) (by decide)) (by decide), (.plain (by decide) (.one (.plain 116 (by decide)) (by decide) (by intro y r h; simp at h) (.one (.plain 84 (by decide)) (by decide) (by intro y r h; simp at h) .nil)))⟩
theorem row18 : SegRel [91, 33, 115, 83, 93] [91, 94, 115, 83, 93] ∧ PartRel [91, 94, 115, 83, 93] (true, [(115, 115), (83, 83)]) := ⟨@SegRel.br 33 [115, 83] [33, 115, 83] (by decide) (by decide) (.plain (by decide) (by kernel_rfl) (by decide)) (by decide), (.barred (.one (.plain 115 (by decide)) (by decide) (by intro y r h; simp at h) (.one (.plain 83 (by decide)) (by decide) (by intro y r h; simp at h) .nil)))⟩
theorem row19 : SegRel [91, 33, 116, 84, 93] [91, 94, 116, 84, 93] ∧ PartRel [91, 94, 116, 84, 93] (true, [(116, 116), (84, 84)]) := ⟨@SegRel.br 33 [116, 84] [33, 116, 84] (by decide) (by decide) (.plain (by decide) (by kernel_rfl) (by decide)) (by decide), (.barred (.one (.plain 116 (by decide)) (by decide) (by intro y r h; simp at h) (.one (.plain 84 (by decide)) (by decide) (by intro y r h; simp at h) .nil)))⟩
theorem row20 : SegRel [91, 33, 120, 115, 93] [91, 94, 120, 115, 93] ∧ PartRel [91, 94, 120, 115, 93] (true, [(120, 120), (115, 115)]) := ⟨@SegRel.br 33 [120, 115] [33, 120, 115] (by decide) (by decide) (.plain (by decide) (by kernel_rfl) (by decide)) (by decide), (.barred (.one (.plain 120 (by decide)) (by decide) (by intro y r h; simp at h) (.one (.plain 115 (by decide)) (by decide) (by intro y r h; simp at h) .nil)))⟩
theorem row21 : SegRel [91, 33, 120, 116, 93] [91, 94, 120, 116, 93] ∧ PartRel [91, 94, 120, 116, 93] (true, [(120, 120), (116, 116)]) := ⟨@SegRel.br 33 [120, 116] [33, 120, 116] (by decide) (by decide) (.plain (by decide) (by kernel_rfl) (by decide)) (by decide), (.barred (.one (.plain 120 (by decide)) (by decide) (by intro y r h; simp at h) (.one (.plain 116 (by decide)) (by decide) (by intro y r h; simp at h) .nil)))⟩
theorem row22 : SegRel [91, 120, 115, 93] [91, 120, 115, 93] ∧ PartRel [91, 120, 115, 93] (false, [(120, 120), (115, 115)]) := ⟨@SegRel.br 120 [115] [120, 115] (by decide) (by decide) (.plain (by decide) (by kernel_rfl) (by decide)) (by decide), (.plain (by decide) (.one (.plain 120 (by decide)) (by decide) (by intro y r h; simp at h) (.one (.plain 115 (by decide)) (by decide) (by intro y r h; simp at h) .nil)))⟩
theorem row23 : SegRel [91, 120, 116, 93] [91, 120, 116, 93] ∧ PartRel [91, 120, 116, 93] (false, [(120, 120), (116, 116)]) := ⟨@SegRel.br 120 [116] [120, 116] (by decide) (by decide) (.plain (by decide) (by kernel_rfl) (by decide)) (by decide), (.plain (by decide) (.one (.plain 120 (by decide)) (by decide) (by intro y r h; simp at h) (.one (.plain 116 (by decide)) (by decide) (by intro y r h; simp at h) .nil)))⟩
theorem row24 : SegRel [91, 120, 45, 93] [91, 120, 92, 45, 93] ∧ PartRel [91, 120, 92, 45, 93] (false, [(120, 120), (45, 45)]) := ⟨@SegRel.br 120 [45] [120, 92, 45] (by decide) (by decide) (.chunks (by decide) (@ChunkCase.hit1 1 [120] [120, 92, 45] rfl chunk2 (by kernel_rfl))) (by decide), (.plain (by decide) (.one (.plain 120 (by decide)) (by decide) (by intro y r h; simp at h) (.one (.esc 45) (by decide) (by intro y r h; simp at h) .nil)))⟩
theorem row25 : SegRel [91, 33, 120, 45, 93] [91, 94, 120, 92, 45, 93] ∧ PartRel [91, 94, 120, 92, 45, 93] (true, [(120, 120), (45, 45)]) := ⟨@SegRel.br 33 [120, 45] [33, 120, 92, 45] (by decide) (by decide) (.chunks (by decide) (@ChunkCase.hit1 2 [33, 120] [33, 120, 92, 45] rfl chunk4 (by kernel_rfl))) (by decide), (.barred (.one (.plain 120 (by decide)) (by decide) (by intro y r h; simp at h) (.one (.esc 45) (by decide) (by intro y r h; simp at h) .nil)))⟩
theorem row26 : SegRel [91, 33, 83, 45, 115, 93] [91, 94, 83, 45, 115, 93] ∧ PartRel [91, 94, 83, 45, 115, 93] (true, [(83, 115)]) := ⟨@SegRel.br 33 [83, 45, 115] [33, 83, 45, 115] (by decide) (by decide) (.chunks (by decide) (@ChunkCase.hit2 2 [33, 83] 115 83 [33, 83, 45, 115] rfl rfl (by decide) chunk7 chunk0 (by kernel_rfl))) (by decide), (.barred (.rng (.plain 83 (by decide)) (by decide) .nil))⟩
theorem row27 : SegRel [91, 33, 84, 45, 116, 93] [91, 94, 84, 45, 116, 93] ∧ PartRel [91, 94, 84, 45, 116, 93] (true, [(84, 116)]) := ⟨@SegRel.br 33 [84, 45, 116] [33, 84, 45, 116] (by decide) (by decide) (.chunks (by decide) (@ChunkCase.hit2 2 [33, 84] 116 84 [33, 84, 45, 116] rfl rfl (by decide) chunk8 chunk1 (by kernel_rfl))) (by decide), (.barred (.rng (.plain 84 (by decide)) (by decide) .nil))⟩
theorem row28 : SegRel [91, 83, 45, 115, 93] [91, 83, 45, 115, 93] ∧ PartRel [91, 83, 45, 115, 93] (false, [(83, 115)]) := ⟨@SegRel.br 83 [45, 115] [83, 45, 115] (by decide) (by decide) (.chunks (by decide) (@ChunkCase.hit2 1 [83] 115 83 [83, 45, 115] rfl rfl (by decide) chunk12 chunk0 (by kernel_rfl))) (by decide), (.plain (by decide) (.rng (.plain 83 (by decide)) (by decide) .nil))⟩
theorem row29 : SegRel [91, 84, 45, 116, 93] [91, 84, 45, 116, 93] ∧ PartRel [91, 84, 45, 116, 93] (false, [(84, 116)]) := ⟨@SegRel.br 84 [45, 116] [84, 45, 116] (by decide) (by decide) (.chunks (by decide) (@ChunkCase.hit2 1 [84] 116 84 [84, 45, 116] rfl rfl (by decide) chunk13 chunk1 (by kernel_rfl))) (by decide), (.plain (by decide) (.rng (.plain 84 (by decide)) (by decide) .nil))⟩
theorem row30 : SegRel [91, 45, 83, 93] [91, 92, 45, 83, 93] ∧ PartRel [91, 92, 45, 83, 93] (false, [(45, 45), (83, 83)]) := ⟨@SegRel.br 45 [83] [92, 45, 83] (by decide) (by decide) (.chunks (by decide) (@ChunkCase.miss 1 [45, 83] [92, 45, 83] (miss2 (by decide)) chunk9 (by kernel_rfl))) (by decide), (.plain (by decide) (.one (.esc 45) (by decide) (by intro y r h; simp at h) (.one (.plain 83 (by decide)) (by decide) (by intro y r h; simp at h) .nil)))⟩
theorem row31 : SegRel [91, 45, 84, 93] [91, 92, 45, 84, 93] ∧ PartRel [91, 92, 45, 84, 93] (false, [(45, 45), (84, 84)]) := ⟨@SegRel.br 45 [84] [92, 45, 84] (by decide) (by decide) (.chunks (by decide) (@ChunkCase.miss 1 [45, 84] [92, 45, 84] (miss2 (by decide)) chunk10 (by kernel_rfl))) (by decide), (.plain (by decide) (.one (.esc 45) (by decide) (by intro y r h; simp at h) (.one (.plain 84 (by decide)) (by decide) (by intro y r h; simp at h) .nil)))⟩
theorem row32 : SegRel [91, 45, 45, 83, 93] [91, 92, 45, 45, 83, 93] ∧ PartRel [91, 92, 45, 45, 83, 93] (false, [(45, 83)]) := ⟨@SegRel.br 45 [45, 83] [92, 45, 45, 83] (by decide) (by decide) (.chunks (by decide) (@ChunkCase.hit2 1 [45] 83 45 [92, 45, 45, 83] rfl rfl (by decide) chunk11 chunk12 (by kernel_rfl))) (by decide), (.plain (by decide) (.rng (.esc 45) (by decide) .nil))⟩
theorem row33 : SegRel [91, 45, 45, 84, 93] [91, 92, 45, 45, 84, 93] ∧ PartRel [91, 92, 45, 45, 84, 93] (false, [(45, 84)]) := ⟨@SegRel.br 45 [45, 84] [92, 45, 45, 84] (by decide) (by decide) (.chunks (by decide) (@ChunkCase.hit2 1 [45] 84 45 [92, 45, 45, 84] rfl rfl (by decide) chunk11 chunk13 (by kernel_rfl))) (by decide), (.plain (by decide) (.rng (.esc 45) (by decide) .nil))⟩
theorem row34 : SegRel [91, 33, 45, 83, 93] [91, 94, 92, 45, 83, 93] ∧ PartRel [91, 94, 92, 45, 83, 93] (true, [(45, 45), (83, 83)]) := ⟨@SegRel.br 33 [45, 83] [33, 92, 45, 83] (by decide) (by decide) (.chunks (by decide) (@ChunkCase.miss 2 [33, 45, 83] [33, 92, 45, 83] (miss3 (by decide)) chunk5 (by kernel_rfl))) (by decide), (.barred (.one (.esc 45) (by decide) (by intro y r h; simp at h) (.one (.plain 83 (by decide)) (by decide) (by intro y r h; simp at h) .nil)))⟩
theorem row35 : SegRel [91, 33, 45, 84, 93] [91, 94, 92, 45, 84, 93] ∧ PartRel [91, 94, 92, 45, 84, 93] (true, [(45, 45), (84, 84)]) := ⟨@SegRel.br 33 [45, 84] [33, 92, 45, 84] (by decide) (by decide) (.chunks (by decide) (@ChunkCase.miss 2 [33, 45, 84] [33, 92, 45, 84] (miss3 (by decide)) chunk6 (by kernel_rfl))) (by decide), (.barred (.one (.esc 45) (by decide) (by intro y r h; simp at h) (.one (.plain 84 (by decide)) (by decide) (by intro y r h; simp at h) .nil)))⟩
theorem row36 : SegRel [91, 115, 45, 120, 93] [91, 115, 45, 120, 93] ∧ PartRel [91, 115, 45, 120, 93] (false, [(115, 120)]) := ⟨@SegRel.br 115 [45, 120] [115, 45, 120] (by decide) (by decide) (.chunks (by decide) (@ChunkCase.hit2 1 [115] 120 115 [115, 45, 120] rfl rfl (by decide) chunk0 chunk3 (by kernel_rfl))) (by decide), (.plain (by decide) (.rng (.plain 115 (by decide)) (by decide) .nil))⟩
theorem row37 : SegRel [91, 116, 45, 120, 93] [91, 116, 45, 120, 93] ∧ PartRel [91, 116, 45, 120, 93] (false, [(116, 120)]) := ⟨@SegRel.br 116 [45, 120] [116, 45, 120] (by decide) (by decide) (.chunks (by decide) (@ChunkCase.hit2 1 [116] 120 116 [116, 45, 120] rfl rfl (by decide) chunk1 chunk3 (by kernel_rfl))) (by decide), (.plain (by decide) (.rng (.plain 116 (by decide)) (by decide) .nil))⟩
def itemTab : List (List Nat × (Bool × List (Nat × Nat))) := [([63], (true, [])), ([45], (false, [(45, 45)])), ([112], (false, [(112, 112)])), ([99], (false, [(99, 99)])), ([100], (false, [(100, 100)])), ([98], (false, [(98, 98)])), ([108], (false, [(108, 108)])), ([115], (false, [(115, 115)])), ([114], (false, [(114, 114)])), ([119], (false, [(119, 119)])), ([120], (false, [(120, 120)])), ([83], (false, [(83, 83)])), ([116], (false, [(116, 116)])), ([84], (false, [(84, 84)])), ([91, 63, 93], (false, [(63, 63)])), ([91, 33, 63, 93], (true, [(63, 63)])), ([91, 115, 83, 93], (false, [(115, 115), (83, 83)])), ([91, 116, 84, 93], (false, [(116, 116), (84, 84)])), ([91, 33, 115, 83, 93], (true, [(115, 115), (83, 83)])), ([91, 33, 116, 84, 93], (true, [(116, 116), (84, 84)])), ([91, 33, 120, 115, 93], (true, [(120, 120), (115, 115)])), ([91, 33, 120, 116, 93], (true, [(120, 120), (116, 116)])), ([91, 120, 115, 93], (false, [(120, 120), (115, 115)])), ([91, 120, 116, 93], (false, [(120, 120), (116, 116)])), ([91, 120, 45, 93], (false, [(120, 120), (45, 45)])), ([91, 33, 120, 45, 93], (true, [(120, 120), (45, 45)])), ([91, 33, 83, 45, 115, 93], (true, [(83, 115)])), ([91, 33, 84, 45, 116, 93], (true, [(84, 116)])), ([91, 83, 45, 115, 93], (false, [(83, 115)])), ([91, 84, 45, 116, 93], (false, [(84, 116)])), ([91, 45, 83, 93], (false, [(45, 45), (83, 83)])), ([91, 45, 84, 93], (false, [(45, 45), (84, 84)])), ([91, 45, 45, 83, 93], (false, [(45, 83)])), ([91, 45, 45, 84, 93], (false, [(45, 84)])), ([91, 33, 45, 83, 93], (true, [(45, 45), (83, 83)])), ([91, 33, 45, 84, 93], (true, [(45, 45), (84, 84)])), ([91, 115, 45, 120, 93], (false, [(115, 120)])), ([91, 116, 45, 120, 93], (false, [(116, 120)]))]
end
section
open PySem.W
def itemOf (s : List Nat) : Bool × List (Nat × Nat) := (itemTab.lookup s).getD (true, [])
-- the bits of a mode
theorem bitOf_eq (m : Int) (k : Nat) : bitOf m k = m / 2 ^ k % 2 := by
  unfold bitOf
  rw [Int.fdiv_eq_ediv_of_nonneg _ (Int.le_of_lt (kbt_pos k)), Int.fmod_eq_emod_of_nonneg _ (by decide)]
theorem bit01 (m : Int) (k : Nat) : bitOf m k = 0 ∨ bitOf m k = 1 := by
  rw [bitOf_eq]; omega
theorem and_shift (k : Nat) : ∀ (x y : Int), Builtin.bitAnd x (2 ^ k * y) = 2 ^ k * Builtin.bitAnd (x / 2 ^ k) y := by
  induction k with
  | zero => intro x y; simp
  | succ n ih =>
    intro x y
    have e1 : (2 : Int) ^ (n + 1) * y = 2 * (2 ^ n * y) := by rw [Int.pow_succ, Int.mul_comm (2 ^ n) 2, Int.mul_assoc]
    have e2 : x / 2 / 2 ^ n = x / 2 ^ (n + 1) := by rw [Int.pow_succ, Int.mul_comm, Int.ediv_ediv_of_nonneg (by decide)]
    rw [e1, kbt_halves, show 2 * (2 ^ n * y) / 2 = 2 ^ n * y from by omega, ih, e2, if_neg (by omega), Int.add_zero, Int.pow_succ, Int.mul_comm (2 ^ n) 2, Int.mul_assoc]
theorem and_two (x : Int) (a d : Nat) : Builtin.bitAnd x (2 ^ a + 2 ^ (a + 1 + d)) = 2 ^ a * bitOf x a + 2 ^ (a + 1 + d) * bitOf x (a + 1 + d) := by
  have e : (2 : Int) ^ a + 2 ^ (a + 1 + d) = 2 ^ a * (1 + 2 * 2 ^ d) := by
    rw [Int.pow_add, Int.pow_succ, Int.mul_add, Int.mul_one, Int.mul_assoc]
  have e2 : x / 2 ^ a / 2 / 2 ^ d = x / 2 ^ (a + 1 + d) := by
    rw [Int.ediv_ediv_of_nonneg (Int.le_of_lt (kbt_pos a)), ← Int.pow_succ, Int.ediv_ediv_of_nonneg (Int.le_of_lt (kbt_pos (a + 1))), ← Int.pow_add]
  rw [e, and_shift, kbt_halves, show (1 + 2 * 2 ^ d) / 2 = (2 : Int) ^ d from by omega, kbt_bit, e2, ← bitOf_eq]
  have h1 : (1 + 2 * (2 : Int) ^ d) % 2 = 1 := by omega
  have h2 : (if x / 2 ^ a % 2 = 1 ∧ (1 + 2 * (2 : Int) ^ d) % 2 = 1 then (1 : Int) else 0) = bitOf x a := by
    rw [bitOf_eq, h1]
    by_cases h : x / 2 ^ a % 2 = 1
    · rw [if_pos ⟨h, rfl⟩, h]
    · rw [if_neg (fun q => h q.1)]; omega
  rw [h2, Int.mul_add, Int.pow_add, Int.pow_succ]
  generalize (2 : Int) ^ a = A
  generalize (2 : Int) ^ d = B
  generalize bitOf x a = u
  generalize bitOf x (a + 1 + d) = v
  rw [Int.add_comm]
  congr 1
  rw [← Int.mul_assoc, Int.mul_comm v B, ← Int.mul_assoc]
theorem and_bit (x : Int) (k : Nat) : Builtin.bitAnd x (2 ^ k) = 2 ^ k * bitOf x k := by rw [kbt_bit, bitOf_eq, Int.mul_comm]
theorem and_top (x : Int) : Builtin.bitAnd x 61440 = 4096 * topOf x := by
  have := and_shift 12 x 15
  rw [show (2 : Int) ^ 12 * 15 = 61440 from by decide, show (2 : Int) ^ 12 = 4096 from by decide, bitAnd_m4] at this
  rw [this]
  unfold topOf
  rw [Int.fdiv_eq_ediv_of_nonneg _ (by decide), Int.fmod_eq_emod_of_nonneg _ (by decide)]
theorem top_lt (x : Int) : 0 ≤ topOf x ∧ topOf x < 16 := by
  unfold topOf
  rw [Int.fmod_eq_emod_of_nonneg _ (by decide)]
  omega
-- filemode's signs by the bits
def sgn (c : Nat) (b : Int) : Nat := if b = 1 then c else 45
def sgn3 (u v w : Nat) (bx bs : Int) : Nat := if bx = 1 ∧ bs = 1 then u else if bs = 1 then v else if bx = 1 then w else 45
def topSign (t : Int) : Nat := if t = 10 then 108 else if t = 12 then 115 else if t = 8 then 45 else if t = 6 then 98 else if t = 4 then 100 else if t = 2 then 99 else if t = 1 then 112 else 63
theorem sign_one {m : Int} {k : Nat} {c n : Nat} (hn : n ≠ 0) : signOf n m [(2 ^ k, c)] = sgn c (bitOf m k) := by
  unfold signOf signOf sgn
  rw [if_neg hn, if_neg hn, and_bit]
  have hp := kbt_pos k
  rcases bit01 m k with h | h
  · rw [h, Int.mul_zero, if_neg (by simp; omega), if_neg (by decide)]
  · rw [h, Int.mul_one, if_pos (by simp), if_pos rfl]
theorem sign_three {m : Int} {a d : Nat} {u v w n : Nat} (hn : n ≠ 0) : signOf n m [(2 ^ a + 2 ^ (a + 1 + d), u), (2 ^ (a + 1 + d), v), (2 ^ a, w)] = sgn3 u v w (bitOf m a) (bitOf m (a + 1 + d)) := by
  unfold signOf signOf signOf signOf sgn3
  simp only [if_neg hn]
  rw [and_two, and_bit, and_bit]
  have hp := kbt_pos a
  have hq := kbt_pos (a + 1 + d)
  generalize (2 : Int) ^ a = A at *
  generalize (2 : Int) ^ (a + 1 + d) = B at *
  rcases bit01 m a with h | h <;> rcases bit01 m (a + 1 + d) with h' | h' <;> rw [h, h'] <;> simp only [Int.mul_zero, Int.mul_one, Int.zero_add, Int.add_zero, beq_iff_eq] <;> (repeat' split) <;> first | rfl | omega | (exfalso; simp_all; done) | (simp_all; omega)
def topRow (t : Int) : List (Int × Nat) → Nat
  | [] => 63
  | (b, c) :: r => if (4096 * t == b) = true then c else topRow t r
theorem sign_row (m : Int) : ∀ rows, signOf 0 m rows = topRow (topOf m) rows
  | [] => rfl
  | (b, c) :: r => by
    show (if (if 0 = 0 then Builtin.bitAnd m 61440 == b else _) = true then c else signOf 0 m r) = (if (4096 * topOf m == b) = true then c else topRow (topOf m) r)
    rw [if_pos rfl, and_top, sign_row m r]
def topRows : List (Int × Nat) := [(40960, 108), (49152, 115), (32768, 45), (24576, 98), (16384, 100), (8192, 99), (4096, 112)]
def topCheck : Bool := (List.range 16).all fun t => topRow (t : Nat) topRows == topSign (t : Nat)
theorem topCheck_true : topCheck = true := by decide +kernel
theorem sign_top (m : Int) : signOf 0 m [(40960, 108), (49152, 115), (32768, 45), (24576, 98), (16384, 100), (8192, 99), (4096, 112)] = topSign (topOf m) := by
  obtain ⟨h0, h1⟩ := top_lt m
  obtain ⟨n, hn⟩ := Int.eq_ofNat_of_zero_le h0
  have hh := topCheck_true
  unfold topCheck at hh
  have := eq_of_beq (List.all_eq_true.mp hh n (List.mem_range.mpr (by omega)))
  refine (sign_row m topRows).trans ?_
  rw [hn]; exact this
theorem modeSigns_eq (m : Int) : modeSigns m = [topSign (topOf m), sgn 114 (bitOf m 8), sgn 119 (bitOf m 7), sgn3 115 83 120 (bitOf m 6) (bitOf m 11), sgn 114 (bitOf m 5), sgn 119 (bitOf m 4), sgn3 115 83 120 (bitOf m 3) (bitOf m 10), sgn 114 (bitOf m 2), sgn 119 (bitOf m 1), sgn3 116 84 120 (bitOf m 0) (bitOf m 9)] := by
  show [signOf 0 m _, signOf 1 m _, signOf 2 m _, signOf 3 m _, signOf 4 m _, signOf 5 m _, signOf 6 m _, signOf 7 m _, signOf 8 m _, signOf 9 m _] = _
  rw [sign_top]
  have h1 := @sign_one m 8 114 1 (by decide)
  have h2 := @sign_one m 7 119 2 (by decide)
  have h3 := @sign_three m 6 4 115 83 120 3 (by decide)
  have h4 := @sign_one m 5 114 4 (by decide)
  have h5 := @sign_one m 4 119 5 (by decide)
  have h6 := @sign_three m 3 6 115 83 120 6 (by decide)
  have h7 := @sign_one m 2 114 7 (by decide)
  have h8 := @sign_one m 1 119 8 (by decide)
  have h9 := @sign_three m 0 8 116 84 120 9 (by decide)
  rw [← h1, ← h2, ← h3, ← h4, ← h5, ← h6, ← h7, ← h8, ← h9]
  rfl
-- what is asked, place by place
def okItem (s : List Nat) (c : Nat) : Bool := !(spanHits c (itemOf s).2 == (itemOf s).1)
def okBit (w : Nat) (b : Int) : Bool := !(decide (0 < w) && (b != (w : Int) - 1))
def kindOk (kind : Nat) (t : Int) : Bool := if kind = 0 then true else if kind < 8 then t == kindsL.getD (kind - 1) 0 else (kindsL.any (· == t)) == (kind == 9)
theorem takes_cons (s : List Nat) (ss : List (List Nat)) (c : Nat) (cs : List Nat) : takesV ((s :: ss).map itemOf) (c :: cs) = (okItem s c && takesV (ss.map itemOf) cs) := by
  show (if spanHits c (itemOf s).2 == (itemOf s).1 then false else takesV (ss.map itemOf) cs) = _
  unfold okItem
  cases (spanHits c (itemOf s).2 == (itemOf s).1) <;> simp
theorem ok_r {w : Nat} (hw : w < 3) {b : Int} (hb : b = 0 ∨ b = 1) : okItem (segR.getD w []) (sgn 114 b) = okBit w b := by
  have : w = 0 ∨ w = 1 ∨ w = 2 := by omega
  rcases this with rfl | rfl | rfl <;> rcases hb with rfl | rfl <;> decide
theorem ok_w {w : Nat} (hw : w < 3) {b : Int} (hb : b = 0 ∨ b = 1) : okItem (segW.getD w []) (sgn 119 b) = okBit w b := by
  have : w = 0 ∨ w = 1 ∨ w = 2 := by omega
  rcases this with rfl | rfl | rfl <;> rcases hb with rfl | rfl <;> decide
def thirdCheck : Bool := (List.range 3).all fun sp => (List.range 3).all fun a => (List.range 3).all fun b => [(0 : Int), 1].all fun bx => [(0 : Int), 1].all fun bs =>
  (okItem (third sp a b) (sgn3 115 83 120 bx bs) == (okBit a bx && okBit b bs)) && (okItem ((third sp a b).map toT) (sgn3 116 84 120 bx bs) == (okBit a bx && okBit b bs))
theorem thirdCheck_true : thirdCheck = true := by decide +kernel
theorem ok_third {sp a b : Nat} (h1 : sp < 3) (h2 : a < 3) (h3 : b < 3) {bx bs : Int} (hx : bx = 0 ∨ bx = 1) (hs : bs = 0 ∨ bs = 1) :
    okItem (third sp a b) (sgn3 115 83 120 bx bs) = (okBit a bx && okBit b bs) ∧ okItem ((third sp a b).map toT) (sgn3 116 84 120 bx bs) = (okBit a bx && okBit b bs) := by
  have h := thirdCheck_true
  unfold thirdCheck at h
  have := List.all_eq_true.mp (List.all_eq_true.mp (List.all_eq_true.mp (List.all_eq_true.mp (List.all_eq_true.mp h sp (List.mem_range.mpr h1)) a (List.mem_range.mpr h2)) b (List.mem_range.mpr h3)) bx (by simpa using hx)) bs (by simpa using hs)
  rw [Bool.and_eq_true] at this
  exact ⟨eq_of_beq this.1, eq_of_beq this.2⟩
def kindCheck : Bool := (List.range 10).all fun kind => (List.range 16).all fun t => okItem (kindSegs.getD kind []) (topSign (t : Nat)) == kindOk kind (t : Nat)
theorem kindCheck_true : kindCheck = true := by decide +kernel
theorem ok_kind {kind : Nat} (h : kind < 10) {t : Int} (h0 : 0 ≤ t) (h1 : t < 16) : okItem (kindSegs.getD kind []) (topSign t) = kindOk kind t := by
  obtain ⟨n, rfl⟩ := Int.eq_ofNat_of_zero_le h0
  have hh := kindCheck_true
  unfold kindCheck at hh
  exact eq_of_beq (List.all_eq_true.mp (List.all_eq_true.mp hh kind (List.mem_range.mpr h)) n (List.mem_range.mpr (by omega)))
theorem fails_step (ws : List Int) (m : Int) (j n : Nat) (w : Nat) (hw : ws.getD j 0 = (w : Int)) : decide (fails ws m j (n + 1) = []) = (okBit w (bitOf m j) && decide (fails ws m (j + 1) n = [])) := by
  rw [fails, hw]
  unfold okBit
  have e : decide (0 < (w : Int)) = decide (0 < w) := by simp
  rw [e]
  cases (decide (0 < w) && (bitOf m j != (w : Int) - 1)) <;> simp
theorem holds_kind (kind : Nat) (hk : kind < 10) (ws : List Int) (m : Int) : holdsV kind ws m = (decide (fails ws m 0 12 = []) && kindOk kind (topOf m)) := by
  unfold holdsV kindOk
  by_cases h : fails ws m 0 12 = []
  · rw [if_pos h, decide_eq_true h, Bool.true_and]
    by_cases h0 : kind = 0
    · subst h0; rfl
    · rw [if_neg h0, if_neg (by omega)]
      by_cases h8 : kind < 8
      · rw [if_pos h8, if_pos (by omega)]
        rw [show ((kind : Int) - 1).toNat = kind - 1 from by omega]
      · rw [if_neg h8, if_neg (by omega)]
        have : ((kind : Int) == 9) = (kind == 9) := by
          by_cases h9 : kind = 9
          · subst h9; rfl
          · rw [beq_eq_false_iff_ne.mpr h9, beq_eq_false_iff_ne.mpr (by omega)]
        rw [this]
  · rw [if_neg h, decide_eq_false h, Bool.false_and]
theorem nat_at {ws : List Nat} (hl : ws.length = 13) {j : Nat} (hj : j < 12) : (natInts (ws.take 12)).getD j 0 = ((ws.getD j 0 : Nat) : Int) := by
  rw [List.getD_eq_getElem?_getD, List.getElem?_map, List.getElem?_take_of_lt hj, getD_some (by omega : j < ws.length) 0]
  rfl
theorem plain_law {kind : Nat} (hk : kind < 10) {ws : List Nat} (hl : ws.length = 13) (h3 : ∀ k ∈ ws, k < 3) (m : Int) : takesV ((segsOf kind ws).map itemOf) (modeSigns m) = holdsV kind (natInts (ws.take 12)) m := by
  have L := ws_lt h3
  have sp := L 12
  have B := bit01 m
  obtain ⟨t0, t1⟩ := top_lt m
  rw [holds_kind kind hk, modeSigns_eq]
  show takesV ((kindSegs.getD kind [] :: segR.getD (ws.getD 8 0) [] :: segW.getD (ws.getD 7 0) [] :: third (ws.getD 12 0) (ws.getD 6 0) (ws.getD 11 0) :: segR.getD (ws.getD 5 0) [] :: segW.getD (ws.getD 4 0) [] :: third (ws.getD 12 0) (ws.getD 3 0) (ws.getD 10 0) :: segR.getD (ws.getD 2 0) [] :: segW.getD (ws.getD 1 0) [] :: (third (ws.getD 12 0) (ws.getD 0 0) (ws.getD 9 0)).map toT :: []).map itemOf) _ = _
  rw [takes_cons, takes_cons, takes_cons, takes_cons, takes_cons, takes_cons, takes_cons, takes_cons, takes_cons, takes_cons]
  rw [ok_kind hk t0 t1, ok_r (L 8) (B 8), ok_w (L 7) (B 7), (ok_third sp (L 6) (L 11) (B 6) (B 11)).1, ok_r (L 5) (B 5), ok_w (L 4) (B 4), (ok_third sp (L 3) (L 10) (B 3) (B 10)).1, ok_r (L 2) (B 2), ok_w (L 1) (B 1), (ok_third sp (L 0) (L 9) (B 0) (B 9)).2]
  have N : ∀ j, j < 12 → (natInts (ws.take 12)).getD j 0 = ((ws.getD j 0 : Nat) : Int) := fun j hj => nat_at hl hj
  rw [fails_step _ m 0 11 _ (N 0 (by decide)), fails_step _ m 1 10 _ (N 1 (by decide)), fails_step _ m 2 9 _ (N 2 (by decide)), fails_step _ m 3 8 _ (N 3 (by decide)), fails_step _ m 4 7 _ (N 4 (by decide)), fails_step _ m 5 6 _ (N 5 (by decide)),
    fails_step _ m 6 5 _ (N 6 (by decide)), fails_step _ m 7 4 _ (N 7 (by decide)), fails_step _ m 8 3 _ (N 8 (by decide)), fails_step _ m 9 2 _ (N 9 (by decide)), fails_step _ m 10 1 _ (N 10 (by decide)), fails_step _ m 11 0 _ (N 11 (by decide))]
  show (_ && (_ && (_ && (_ && (_ && (_ && (_ && (_ && (_ && (_ && true)))))))))) = ((_ && (_ && (_ && (_ && (_ && (_ && (_ && (_ && (_ && (_ && (_ && (_ && true)))))))))))) && _)
  generalize kindOk kind (topOf m) = K
  generalize okBit (ws.getD 0 0) (bitOf m 0) = b0
  generalize okBit (ws.getD 1 0) (bitOf m 1) = b1
  generalize okBit (ws.getD 2 0) (bitOf m 2) = b2
  generalize okBit (ws.getD 3 0) (bitOf m 3) = b3
  generalize okBit (ws.getD 4 0) (bitOf m 4) = b4
  generalize okBit (ws.getD 5 0) (bitOf m 5) = b5
  generalize okBit (ws.getD 6 0) (bitOf m 6) = b6
  generalize okBit (ws.getD 7 0) (bitOf m 7) = b7
  generalize okBit (ws.getD 8 0) (bitOf m 8) = b8
  generalize okBit (ws.getD 9 0) (bitOf m 9) = b9
  generalize okBit (ws.getD 10 0) (bitOf m 10) = b10
  generalize okBit (ws.getD 11 0) (bitOf m 11) = b11
  ac_rfl
end
section
theorem io0 : itemOf [63] = (true, []) := by decide +kernel
theorem io1 : itemOf [45] = (false, [(45, 45)]) := by decide +kernel
theorem io2 : itemOf [112] = (false, [(112, 112)]) := by decide +kernel
theorem io3 : itemOf [99] = (false, [(99, 99)]) := by decide +kernel
theorem io4 : itemOf [100] = (false, [(100, 100)]) := by decide +kernel
theorem io5 : itemOf [98] = (false, [(98, 98)]) := by decide +kernel
theorem io6 : itemOf [108] = (false, [(108, 108)]) := by decide +kernel
theorem io7 : itemOf [115] = (false, [(115, 115)]) := by decide +kernel
theorem io8 : itemOf [114] = (false, [(114, 114)]) := by decide +kernel
theorem io9 : itemOf [119] = (false, [(119, 119)]) := by decide +kernel
theorem io10 : itemOf [120] = (false, [(120, 120)]) := by decide +kernel
theorem io11 : itemOf [83] = (false, [(83, 83)]) := by decide +kernel
theorem io12 : itemOf [116] = (false, [(116, 116)]) := by decide +kernel
theorem io13 : itemOf [84] = (false, [(84, 84)]) := by decide +kernel
theorem io14 : itemOf [91, 63, 93] = (false, [(63, 63)]) := by decide +kernel
theorem io15 : itemOf [91, 33, 63, 93] = (true, [(63, 63)]) := by decide +kernel
theorem io16 : itemOf [91, 115, 83, 93] = (false, [(115, 115), (83, 83)]) := by decide +kernel
theorem io17 : itemOf [91, 116, 84, 93] = (false, [(116, 116), (84, 84)]) := by decide +kernel
theorem io18 : itemOf [91, 33, 115, 83, 93] = (true, [(115, 115), (83, 83)]) := by decide +kernel
theorem io19 : itemOf [91, 33, 116, 84, 93] = (true, [(116, 116), (84, 84)]) := by decide +kernel
theorem io20 : itemOf [91, 33, 120, 115, 93] = (true, [(120, 120), (115, 115)]) := by decide +kernel
theorem io21 : itemOf [91, 33, 120, 116, 93] = (true, [(120, 120), (116, 116)]) := by decide +kernel
theorem io22 : itemOf [91, 120, 115, 93] = (false, [(120, 120), (115, 115)]) := by decide +kernel
theorem io23 : itemOf [91, 120, 116, 93] = (false, [(120, 120), (116, 116)]) := by decide +kernel
theorem io24 : itemOf [91, 120, 45, 93] = (false, [(120, 120), (45, 45)]) := by decide +kernel
theorem io25 : itemOf [91, 33, 120, 45, 93] = (true, [(120, 120), (45, 45)]) := by decide +kernel
theorem io26 : itemOf [91, 33, 83, 45, 115, 93] = (true, [(83, 115)]) := by decide +kernel
theorem io27 : itemOf [91, 33, 84, 45, 116, 93] = (true, [(84, 116)]) := by decide +kernel
theorem io28 : itemOf [91, 83, 45, 115, 93] = (false, [(83, 115)]) := by decide +kernel
theorem io29 : itemOf [91, 84, 45, 116, 93] = (false, [(84, 116)]) := by decide +kernel
theorem io30 : itemOf [91, 45, 83, 93] = (false, [(45, 45), (83, 83)]) := by decide +kernel
theorem io31 : itemOf [91, 45, 84, 93] = (false, [(45, 45), (84, 84)]) := by decide +kernel
theorem io32 : itemOf [91, 45, 45, 83, 93] = (false, [(45, 83)]) := by decide +kernel
theorem io33 : itemOf [91, 45, 45, 84, 93] = (false, [(45, 84)]) := by decide +kernel
theorem io34 : itemOf [91, 33, 45, 83, 93] = (true, [(45, 45), (83, 83)]) := by decide +kernel
theorem io35 : itemOf [91, 33, 45, 84, 93] = (true, [(45, 45), (84, 84)]) := by decide +kernel
theorem io36 : itemOf [91, 115, 45, 120, 93] = (false, [(115, 120)]) := by decide +kernel
theorem io37 : itemOf [91, 116, 45, 120, 93] = (false, [(116, 120)]) := by decide +kernel
def allSegs : List (List Nat) := [[63], [45], [112], [99], [100], [98], [108], [115], [114], [119], [120], [83], [116], [84], [91, 63, 93], [91, 33, 63, 93], [91, 115, 83, 93], [91, 116, 84, 93], [91, 33, 115, 83, 93], [91, 33, 116, 84, 93], [91, 33, 120, 115, 93], [91, 33, 120, 116, 93], [91, 120, 115, 93], [91, 120, 116, 93], [91, 120, 45, 93], [91, 33, 120, 45, 93], [91, 33, 83, 45, 115, 93], [91, 33, 84, 45, 116, 93], [91, 83, 45, 115, 93], [91, 84, 45, 116, 93], [91, 45, 83, 93], [91, 45, 84, 93], [91, 45, 45, 83, 93], [91, 45, 45, 84, 93], [91, 33, 45, 83, 93], [91, 33, 45, 84, 93], [91, 115, 45, 120, 93], [91, 116, 45, 120, 93]]
theorem seg_good {s : List Nat} (h : s ∈ allSegs) : ∃ p, SegRel s p ∧ PartRel p (itemOf s) ∧ p.length ≤ 1000 ∧ s.length ≤ 6 ∧ (itemOf s).2.length ≤ 1000 := by
  simp only [allSegs, List.mem_cons, List.not_mem_nil, or_false] at h
  rcases h with rfl | rfl | rfl | rfl | rfl | rfl | rfl | rfl | rfl | rfl | rfl | rfl | rfl | rfl | rfl | rfl | rfl | rfl | rfl | rfl | rfl | rfl | rfl | rfl | rfl | rfl | rfl | rfl | rfl | rfl | rfl | rfl | rfl | rfl | rfl | rfl | rfl | rfl
  · exact ⟨[46], row0.1, by rw [io0]; exact row0.2, by decide, by decide, by rw [io0]; decide⟩
  · exact ⟨[92, 45], row1.1, by rw [io1]; exact row1.2, by decide, by decide, by rw [io1]; decide⟩
  · exact ⟨[112], row2.1, by rw [io2]; exact row2.2, by decide, by decide, by rw [io2]; decide⟩
  · exact ⟨[99], row3.1, by rw [io3]; exact row3.2, by decide, by decide, by rw [io3]; decide⟩
  · exact ⟨[100], row4.1, by rw [io4]; exact row4.2, by decide, by decide, by rw [io4]; decide⟩
  · exact ⟨[98], row5.1, by rw [io5]; exact row5.2, by decide, by decide, by rw [io5]; decide⟩
  · exact ⟨[108], row6.1, by rw [io6]; exact row6.2, by decide, by decide, by rw [io6]; decide⟩
  · exact ⟨[115], row7.1, by rw [io7]; exact row7.2, by decide, by decide, by rw [io7]; decide⟩
  · exact ⟨[114], row8.1, by rw [io8]; exact row8.2, by decide, by decide, by rw [io8]; decide⟩
  · exact ⟨[119], row9.1, by rw [io9]; exact row9.2, by decide, by decide, by rw [io9]; decide⟩
  · exact ⟨[120], row10.1, by rw [io10]; exact row10.2, by decide, by decide, by rw [io10]; decide⟩
  · exact ⟨[83], row11.1, by rw [io11]; exact row11.2, by decide, by decide, by rw [io11]; decide⟩
  · exact ⟨[116], row12.1, by rw [io12]; exact row12.2, by decide, by decide, by rw [io12]; decide⟩
  · exact ⟨[84], row13.1, by rw [io13]; exact row13.2, by decide, by decide, by rw [io13]; decide⟩
  · exact ⟨[91, 63, 93], row14.1, by rw [io14]; exact row14.2, by decide, by decide, by rw [io14]; decide⟩
  · exact ⟨[91, 94, 63, 93], row15.1, by rw [io15]; exact row15.2, by decide, by decide, by rw [io15]; decide⟩
  · exact ⟨[91, 115, 83, 93], row16.1, by rw [io16]; exact row16.2, by decide, by decide, by rw [io16]; decide⟩
  · exact ⟨[91, 116, 84, 93], row17.1, by rw [io17]; exact row17.2, by decide, by decide, by rw [io17]; decide⟩
  · exact ⟨[91, 94, 115, 83, 93], row18.1, by rw [io18]; exact row18.2, by decide, by decide, by rw [io18]; decide⟩
  · exact ⟨[91, 94, 116, 84, 93], row19.1, by rw [io19]; exact row19.2, by decide, by decide, by rw [io19]; decide⟩
  · exact ⟨[91, 94, 120, 115, 93], row20.1, by rw [io20]; exact row20.2, by decide, by decide, by rw [io20]; decide⟩
  · exact ⟨[91, 94, 120, 116, 93], row21.1, by rw [io21]; exact row21.2, by decide, by decide, by rw [io21]; decide⟩
  · exact ⟨[91, 120, 115, 93], row22.1, by rw [io22]; exact row22.2, by decide, by decide, by rw [io22]; decide⟩
  · exact ⟨[91, 120, 116, 93], row23.1, by rw [io23]; exact row23.2, by decide, by decide, by rw [io23]; decide⟩
  · exact ⟨[91, 120, 92, 45, 93], row24.1, by rw [io24]; exact row24.2, by decide, by decide, by rw [io24]; decide⟩
  · exact ⟨[91, 94, 120, 92, 45, 93], row25.1, by rw [io25]; exact row25.2, by decide, by decide, by rw [io25]; decide⟩
  · exact ⟨[91, 94, 83, 45, 115, 93], row26.1, by rw [io26]; exact row26.2, by decide, by decide, by rw [io26]; decide⟩
  · exact ⟨[91, 94, 84, 45, 116, 93], row27.1, by rw [io27]; exact row27.2, by decide, by decide, by rw [io27]; decide⟩
  · exact ⟨[91, 83, 45, 115, 93], row28.1, by rw [io28]; exact row28.2, by decide, by decide, by rw [io28]; decide⟩
  · exact ⟨[91, 84, 45, 116, 93], row29.1, by rw [io29]; exact row29.2, by decide, by decide, by rw [io29]; decide⟩
  · exact ⟨[91, 92, 45, 83, 93], row30.1, by rw [io30]; exact row30.2, by decide, by decide, by rw [io30]; decide⟩
  · exact ⟨[91, 92, 45, 84, 93], row31.1, by rw [io31]; exact row31.2, by decide, by decide, by rw [io31]; decide⟩
  · exact ⟨[91, 92, 45, 45, 83, 93], row32.1, by rw [io32]; exact row32.2, by decide, by decide, by rw [io32]; decide⟩
  · exact ⟨[91, 92, 45, 45, 84, 93], row33.1, by rw [io33]; exact row33.2, by decide, by decide, by rw [io33]; decide⟩
  · exact ⟨[91, 94, 92, 45, 83, 93], row34.1, by rw [io34]; exact row34.2, by decide, by decide, by rw [io34]; decide⟩
  · exact ⟨[91, 94, 92, 45, 84, 93], row35.1, by rw [io35]; exact row35.2, by decide, by decide, by rw [io35]; decide⟩
  · exact ⟨[91, 115, 45, 120, 93], row36.1, by rw [io36]; exact row36.2, by decide, by decide, by rw [io36]; decide⟩
  · exact ⟨[91, 116, 45, 120, 93], row37.1, by rw [io37]; exact row37.2, by decide, by decide, by rw [io37]; decide⟩
def kindIn : Bool := (List.range 10).all fun k => allSegs.contains (kindSegs.getD k [])
theorem kindIn_true : kindIn = true := by decide +kernel
theorem kind_seg {kind : Nat} (h : kind < 10) : kindSegs.getD kind [] ∈ allSegs := by
  have h' := kindIn_true
  unfold kindIn at h'
  simpa using List.all_eq_true.mp h' kind (List.mem_range.mpr h)
theorem r_seg {w : Nat} (h : w < 3) : segR.getD w [] ∈ allSegs := by
  have : w = 0 ∨ w = 1 ∨ w = 2 := by omega
  rcases this with rfl | rfl | rfl <;> decide
theorem w_seg {w : Nat} (h : w < 3) : segW.getD w [] ∈ allSegs := by
  have : w = 0 ∨ w = 1 ∨ w = 2 := by omega
  rcases this with rfl | rfl | rfl <;> decide
def thirdIn : Bool := (List.range 3).all fun sp => (List.range 3).all fun a => (List.range 3).all fun b => allSegs.contains (third sp a b) && allSegs.contains ((third sp a b).map toT)
theorem thirdIn_true : thirdIn = true := by decide +kernel
theorem third_seg {sp a b : Nat} (h1 : sp < 3) (h2 : a < 3) (h3 : b < 3) : third sp a b ∈ allSegs ∧ (third sp a b).map toT ∈ allSegs := by
  have h := thirdIn_true
  unfold thirdIn at h
  have := List.all_eq_true.mp (List.all_eq_true.mp (List.all_eq_true.mp h sp (List.mem_range.mpr h1)) a (List.mem_range.mpr h2)) b (List.mem_range.mpr h3)
  rw [Bool.and_eq_true] at this
  exact ⟨by simpa using this.1, by simpa using this.2⟩
theorem segs_in {kind : Nat} (hk : kind < 10) {ws : List Nat} (h3 : ∀ k ∈ ws, k < 3) : ∀ s ∈ segsOf kind ws, s ∈ allSegs := by
  have L := ws_lt h3
  have sp := L 12
  intro s hs
  have hs' : s ∈ [kindSegs.getD kind [], segR.getD (ws.getD 8 0) [], segW.getD (ws.getD 7 0) [], third (ws.getD 12 0) (ws.getD 6 0) (ws.getD 11 0), segR.getD (ws.getD 5 0) [], segW.getD (ws.getD 4 0) [], third (ws.getD 12 0) (ws.getD 3 0) (ws.getD 10 0), segR.getD (ws.getD 2 0) [], segW.getD (ws.getD 1 0) [], (third (ws.getD 12 0) (ws.getD 0 0) (ws.getD 9 0)).map toT] := hs
  simp only [List.mem_cons, List.not_mem_nil, or_false] at hs'
  rcases hs' with rfl | rfl | rfl | rfl | rfl | rfl | rfl | rfl | rfl | rfl
  · exact kind_seg hk
  · exact r_seg (L 8)
  · exact w_seg (L 7)
  · exact (third_seg sp (L 6) (L 11)).1
  · exact r_seg (L 5)
  · exact w_seg (L 4)
  · exact (third_seg sp (L 3) (L 10)).1
  · exact r_seg (L 2)
  · exact w_seg (L 1)
  · exact (third_seg sp (L 0) (L 9)).2
theorem segs_parts : ∀ {segs : List (List Nat)}, (∀ s ∈ segs, s ∈ allSegs) → ∃ parts, Paired SegRel segs parts ∧ Paired PartRel parts (segs.map itemOf) ∧ (∀ p ∈ parts, p.length ≤ 1000) ∧ segs.flatten.length ≤ 6 * segs.length ∧ ∀ it ∈ segs.map itemOf, it.2.length ≤ 1000
  | [], _ => ⟨[], .nil, .nil, by simp, by simp, by simp⟩
  | s :: r, h => by
    obtain ⟨p, h1, h2, h3, h4, h5⟩ := seg_good (h s (.head _))
    obtain ⟨ps, g1, g2, g3, g4, g5⟩ := segs_parts fun x hx => h x (.tail _ hx)
    refine ⟨p :: ps, .cons h1 g1, .cons h2 g2, ?_, by simp only [List.flatten_cons, List.length_append, List.length_cons]; omega, ?_⟩
    · intro x hx
      rcases List.mem_cons.mp hx with rfl | hx
      · exact h3
      · exact g3 x hx
    · intro x hx
      rcases List.mem_cons.mp hx with rfl | hx
      · exact h5
      · exact g5 x hx
theorem segsOf_len (kind : Nat) (ws : List Nat) : (segsOf kind ws).length = 10 := rfl
end
section
open PySem.Calls PyProof.V PySem.Spec PySem.SeqAt
open StrLaws
def lawS (n : Nat) : Stmt := (bodyAt 36).getD n noStmt
section
variable {C : Cx} {l : Loc} {D D' : Led} {g : Array GenState} {env : Env}
theorem SliceI {value slice : PySem.Expr} {b sl : Addr} {its : List Value} {lv uv sv : Value} {lo hi st : Option Int} {ops : List Value} {Q : Value → AS → Prop} (hb : ∀ s, St C ⟨l, D, g⟩ s → s.heap.IsList b its.toArray) (hin : (sl, sliceP lv uv sv) ∈ D) (pl : IsPart lv lo) (pu : IsPart uv hi) (ps : IsPart sv st) (h0 : st ≠ some 0) (hz : its.length ≤ 1000000)
    (h : ∀ a, Q (.ref a) ⟨l, (a, listP (slicePick its.toArray lo hi st).toList) :: D, g⟩)
    (hs : subscripted slice false (.ref b) (.ref sl) = operate ops (getItem (.ref b) (.ref sl)) := by with_unfolding_all rfl) : W C ⟨l, D, g⟩ (subscriptTail value slice (.ref b) (.ref sl)) Q := fun s E H => by
  have hl := hb s H
  obtain ⟨o, ho, hc, hd⟩ := H.obj hin
  refine tail_any hl.typeIs slot_list_getitem.lookup (wpAny_getItem_list_slice hl ⟨o, ho, hc, hd⟩ pl pu ps h0 ⟨_, h _, ?_⟩ (by rw [List.size_toArray]; exact Nat.le_trans hz (by show _ ≤ 2 ^ 24; omega))) hs
  exact H.push _ ⟨0, by simp⟩
theorem Add_lists {a b : Addr} {vs ws : List Value} {Q : Value → AS → Prop} (ka : (a, listP vs) ∈ D) (kb : (b, listP ws) ∈ D) (hz : vs.length + ws.length ≤ 1000) (h : ∀ r, Q (.ref r) ⟨l, (r, listP (vs ++ ws)) :: D, g⟩) : W C ⟨l, D, g⟩ (binaryOp .Add (.ref a) (.ref b)) Q := fun s E H => by
  obtain ⟨n, ho⟩ := H.list ka
  obtain ⟨n2, ho2⟩ := H.list kb
  have e : vs.toArray ++ ws.toArray = (vs ++ ws).toArray := by simp
  refine concat_meets ⟨_, ho, rfl⟩ ⟨_, ho2, rfl⟩ noFill_list_add seq_list_add PySem.F.slot_list_add PySem.F.entry_list_add (PySem.F.args_list_add_2 _ _) (list_addW a b vs.toArray ws.toArray n n2 _ _ _ _ (by simp only [List.size_toArray]; exact Nat.le_trans hz (by show _ ≤ 2 ^ 24; omega))) ⟨ho, ho2, ?_⟩
  rw [e]
  exact ⟨_, h _, H.push _ ⟨_, rfl⟩⟩
theorem Assign_trip {e1 e2 e3 : PySem.Expr} {k : Nat} {pos : Pos} {t : Addr} {a b c : Value} {Q : Unit → AS → Prop} (hh : C.A.handled = none) (ht : (t, tupP [a, b, c]) ∈ D)
    (h : W C ⟨l, D, g⟩ (assign e1 env a) fun _ σ1 => W C σ1 (assign e2 env b) fun _ σ2 => W C σ2 (assign e3 env c) Q) (hn : (assignEach [e1, e2, e3] env).length = 3 := by rfl) (hf : (assignEach [e1, e2, e3] env).findIdx? (·.1) = none := by rfl) (hm : (assignEach [e1, e2, e3] env).map (·.2) = [assign e1 env, assign e2 env, assign e3 env] := by rfl) :
    W C ⟨l, D, g⟩ (assign (.Tuple [e1, e2, e3] k pos) env (.ref t)) Q := fun s E H => by
  refine wpAny_assign_Tuple hh (H.tup ht) hn hf fun h' he => ?_
  rw [hm]
  have H' : St C ⟨l, D, g⟩ { s with heap := h', toks := s.toks } := H.keeps (fun b o eb => he b o (Nat.ne_of_lt (Heap.lt_size eb)) eb) _
  refine wpAny_assignInOrder_more (t := assign e1 env) (ts := [assign e2 env, assign e3 env]) ?_
  refine wpAny_mono (W.run h H') (fun _ s₁ ⟨σ₁, q₁, H₁⟩ => ?_) fun _ _ x => x
  refine wpAny_assignInOrder_more ?_
  refine wpAny_mono (W.run q₁ H₁) (fun _ s₂ ⟨σ₂, q₂, H₂⟩ => ?_) fun _ _ x => x
  refine wpAny_assignInOrder_more ?_
  refine wpAny_mono (W.run q₂ H₂) (fun _ s₃ ⟨σ₃, q₃, H₃⟩ => ?_) fun _ _ x => x
  exact wpAny_assignInOrder_none ⟨σ₃, q₃, H₃⟩
theorem same_bools (bs : List Bool) : PySem.Spec.sameAll (bs.map PyData.bool) (bs.map PyData.bool) = true := by
  induction bs with
  | nil => simp [PySem.Spec.sameAll]
  | cons b r ih => simp [PySem.Spec.sameAll, PySem.Spec.same, ih]
theorem readsAll_bools {h : Heap} : ∀ (bs : List Bool), ReadsAll h (bs.map Value.bool) (bs.map PyData.bool) []
  | [] => .nil
  | b :: r => by
    have := ReadsAll.cons (Reads.bool (h := h) b) (readsAll_bools (h := h) r)
    simpa using this
theorem Ne_bools {a b : Addr} {bs : List Bool} {Q : Value → AS → Prop} (ka : (a, listP (bs.map Value.bool)) ∈ D) (kb : (b, listP (bs.map Value.bool)) ∈ D) (hu : C.A.units ≤ 9000) (h : Q (.bool false) ⟨l, D, g⟩) :
    W C ⟨l, D, g⟩ (compareOp .NotEq (.ref a) (.ref b)) Q := fun s E H => by
  obtain ⟨n, ho⟩ := H.list ka
  obtain ⟨n', ho'⟩ := H.list kb
  have hs : shaped (.list (bs.map PyData.bool)) = true := shaped_flat _ fun d hd => by
    obtain ⟨b, _, rfl⟩ := List.mem_map.mp hd
    exact ⟨by simp [PyData.canLay0], by simp [PyData.depth]⟩
  refine ne_dataH_same (Reads.list ho rfl rfl (by simpa using readsAll_bools bs)) (Reads.list ho' rfl rfl (by simpa using readsAll_bools bs)) hs hs (by show _ < 9900; omega) ?_ ?_
  · show noMixAll _ _ = true
    refine noMixAll_of_all (P := fun x => ∃ b, x = .bool b) (fun x y ⟨_, e⟩ ⟨_, e'⟩ => by subst e e'; rfl) _ _ ?_ ?_ <;> (intro x hx; obtain ⟨b, _, rfl⟩ := List.mem_map.mp hx; exact ⟨b, rfl⟩)
  · have : PySem.Spec.same (.list (bs.map PyData.bool)) (.list (bs.map PyData.bool)) = true := by
      rw [PySem.Spec.same]; exact same_bools bs
    rw [this]
    exact ⟨_, h, H⟩
theorem WComp.perm {l : Loc} {D D' : Led} {g : Array GenState} {e : PySem.Expr} {it acc : Value} {env : Env} {Q : AS → Prop} (h : WComp C ⟨l, D', g⟩ e it acc env Q) (p : D'.Perm D) : WComp C ⟨l, D, g⟩ e it acc env Q := fun s E H => h s E (H.perm p)
theorem UpdD.app {D D' : Led} {a : Addr} {P P' : Obj → Prop} (u : UpdD D a P P' D') : ∀ K : Led, UpdD (K ++ D) a P P' (K ++ D')
  | [] => u
  | _ :: K => .there (UpdD.app u K)
theorem DelD.app {D D' : Led} {a : Addr} (u : DelD D a D') : ∀ K : Led, DelD (K ++ D) a (K ++ D')
  | [] => u
  | _ :: K => .there (DelD.app u K)
theorem FnCd.fn {h : Heap} {mg : Str → Option Value} {name : Str} {params : Arguments} {body : List Stmt} {scope : Scope} {a c : Addr} (f : FnCd h mg name params body scope a c) : FnAt h mg name params body scope a :=
  ⟨f.glob, let ⟨o, pm, doc, h1, h2, h3⟩ := f.obj; ⟨o, pm, .ref c, doc, h1, h2, h3⟩⟩
end
end
section
open PySem.Calls PyProof.V PySem.Spec PySem.SeqAt
open StrLaws
theorem ints_paired {vs : List Value} {ns : List Int} (h : IntsAre vs ns) : Paired (fun v n => ∃ t, v = Value.int n t) vs ns := by
  induction ns generalizing vs with
  | nil => rw [h.nil_inv]; exact .nil
  | cons m ms ih => obtain ⟨t', vs', rfl, h'⟩ := h.cons_inv; exact .cons ⟨t', rfl⟩ (ih h')
theorem paired_ints {vs : List Value} {ns : List Int} (h : Paired (fun v n => ∃ t, v = Value.int n t) vs ns) : IntsAre vs ns := by
  induction h with
  | nil => exact .nil
  | cons h _ ih => obtain ⟨t, rfl⟩ := h; exact .cons _ _ ih
theorem paired_map {α β γ : Type} {R : α → β → Prop} {R' : α → γ → Prop} {f : β → γ} (h : ∀ a b, R a b → R' a (f b)) : ∀ {l : List α} {m : List β}, Paired R l m → Paired R' l (m.map f)
  | _, _, .nil => .nil
  | _, _, .cons p t => .cons (h _ _ p) (paired_map h t)
theorem perm_two {α : Type} (x y : α) (A B : List α) : (x :: y :: (A ++ B)).Perm (A ++ x :: y :: B) :=
  ((List.Perm.cons x (List.perm_middle (l₁ := A) (a := y) (l₂ := B)).symm).trans (List.perm_middle (l₁ := A) (a := x) (l₂ := y :: B)).symm)
set_option maxHeartbeats 1000000 in
/-- a comprehension over a list, item by item -/
theorem WComp_map {β : Type} {In : Value → β → Prop} {Rout : Led → Value → β → Prop} (mono : ∀ D D' v b, Rout D v b → (∀ q ∈ D, q ∈ D') → Rout D' v b) {C : Cx} {g : Array GenState} {t I acc : Addr} {vs : List Value} {x : Str} {px pos : Pos} {elt iter : PySem.Expr} {scope : Scope} {env : Env}
    (hh : C.A.handled = none) (kt : Kn C [] t (listP vs)) (hz : vs.length ≤ 1000)
    (elem : ∀ v b D, In v b → W C ⟨[(x, some v)], D, g⟩ (eval elt env) fun y σ' => ∃ D', Rout D' y b ∧ σ' = ⟨[(x, some v)], D' ++ D, g⟩)
    (hL : env.locals = C.L) (hk : env.scope.kind = .function) (hl : env.kindOf x = some .local) :
    ∀ (ys : List β) (i : Nat) (its : List Value) (done : List β) (o : Option Value) (K : Led), Paired In (vs.drop i) ys → its.length ≤ i → Paired (Rout K) its done →
      WComp C ⟨[(x, o)], (acc, listP its) :: (I, listIterP t i) :: K, g⟩ (compOf elt (.Name x px) iter [] scope pos) (.ref I) (.ref acc) env
        fun σ' => ∃ o vs' K', Paired (Rout K') vs' (done ++ ys) ∧ σ' = ⟨[(x, o)], (acc, listP vs') :: K', g⟩ := by
  intro ys
  induction ys with
  | nil =>
    intro i its done o K hv hi hd
    refine WComp.step0 (Next_list_end (its := vs) hh (fun s H => kt.old.list H) (drop_nil' hv) (.tail _ (.head _)) (.there .here) ?_)
    dsimp only
    exact ⟨o, its, K, by simpa using hd, rfl⟩
  | cons b ys ih =>
    intro i its done o K hv hi hd
    obtain ⟨v, hvi, hvb, hv'⟩ := drop_cons hv
    have hil : i < vs.length := (List.getElem?_eq_some_iff.mp hvi).1
    refine WComp.step0 (Next_list (its := vs) (fun s H => kt.old.list H) hvi (.there .here) ?_)
    dsimp only
    refine let_plain ?_
    refine Assign_target ?_
    refine Store_local .here ?_ hL hk hl
    refine W.mono (elem v b _ hvb) ?_
    rintro y σ' ⟨D', hr, rfl⟩
    refine ⟨acc, its, _, rfl, by omega, UpdD.app .here D', ?_⟩
    refine WComp.perm ?_ (perm_two _ _ D' K)
    refine WComp.mono (ih (i + 1) (its ++ [y]) (done ++ [b]) (some v) (D' ++ K) hv' (by simp; omega) ?_) ?_
    · exact paired_snoc (mono _ _ _ _ hr fun q hq => List.mem_append_left _ hq) (paired_imp (fun _ _ r => mono _ _ _ _ r fun q hq => List.mem_append_right _ hq) hd)
    · rintro σ' ⟨o, vs', K', h, rfl⟩
      exact ⟨o, vs', K', by simpa using h, rfl⟩
structure LawA where
  ea : Addr
  cd : Addr
  P : Addr
  ta : Addr
  qa : Addr
  ha : Addr
  ma : Addr
  sa : Addr
  ka : Addr
  fa : Addr
  ia : Addr
  tv : Value
/-- what the text holds for the law -/
structure LawH (C : Cx) (mg mb : Str → Option Value) (a : LawA) : Prop where
  H : TrH C mg mb a.ea a.cd a.P
  FT : FnCd C.h₀ mg (S "_translate") (paramsAt 29) (bodyAt 29) (scopeAt 29) a.ta a.cd
  Fq : Def C.h₀ mg 31 (S "_law_question") a.qa
  Fh : Def C.h₀ mg 32 (S "_law_holds") a.ha
  Fm : Def C.h₀ mg 33 (S "_law_made") a.ma
  Fs : Def C.h₀ mg 34 (S "_law_spans") a.sa
  Fk : Def C.h₀ mg 35 (S "_law_takes") a.ka
  Ff : Def C.h₀ mg 23 (S "filemode") a.fa
  Fi : Def C.h₀ mg 2 (S "S_IFMT") a.ia
  hen : mg (S "enumerate") = none
  heb : mb (S "enumerate") = some (.type "enumerate")
  hT : mg (S "_filemode_table") = some a.tv
  hF : FileTab C.h₀ a.tv
  hun : mg (S "sum") = none
  hub : mb (S "sum") = some (.builtin "sum")
  han : mg (S "abs") = none
  hab : mb (S "abs") = some (.builtin "abs")
theorem LawH.to {C C' : Cx} {mg mb : Str → Option Value} {a : LawA} (x : LawH C mg mb a) (hp : C'.prog = C.prog) (hw : C'.w = C.w) (hk : ∀ b o, C.h₀.get? b = some o → C'.h₀.get? b = some o) : LawH C' mg mb a :=
  { x with H := x.H.to hp hw hk, FT := x.FT.keeps hk, Fq := x.Fq.keeps hk, Fh := x.Fh.keeps hk, Fm := x.Fm.keeps hk, Fs := x.Fs.keeps hk, Fk := x.Fk.keeps hk, Ff := x.Ff.keeps hk, Fi := x.Fi.keeps hk, hF := x.hF.keeps hk }
theorem LawH.inn {C C' : Cx} {σ : AS} {mg mb : Str → Option Value} {a : LawA} (x : LawH C mg mb a) (i : In C C' σ) : LawH C' mg mb a := x.to i.prog i.w i.keep
abbrev lawEnv (L fa : Addr) (cd : Value) : Env := envOfC (S "law") (scopeAt 36) L fa cd
def exprE : Stmt → PySem.Expr
  | .Expr e _ => e
  | .Assign _ e _ => e
  | .If t _ _ _ => t
  | _ => .Constant .none 0 ⟨0, 0, 0, 0⟩
def lawQ (n : Nat) : Stmt := (bodyOf (lawS 3)).getD n noStmt
def lawT (n : Nat) : Stmt := (bodyOf (lawS 5)).getD n noStmt
def thirdE : PySem.Expr → PySem.Expr
  | .Tuple (_ :: _ :: e :: _) _ _ => e
  | e => e
def cmpR : PySem.Expr → PySem.Expr
  | .Compare _ _ (e :: _) _ => e
  | e => e
def lawC1 : PySem.Expr := leftOf (exprE (lawS 0))
def lawC2 : PySem.Expr := thirdE (argOf (exprE (lawQ 1)))
def lawC3 : PySem.Expr := exprE (lawQ 4)
def lawC4 : PySem.Expr := exprE (lawS 4)
def lawC5 : PySem.Expr := exprE (lawT 0)
def lawC6 : PySem.Expr := cmpR (exprE (lawT 1))
section
variable {C : Cx} {l : Loc} {D : Led} {g : Array GenState} {mg mb : Str → Option Value} {a : LawA} {fa : Addr} {cd : Value} {k : Nat}
theorem isList_keeps {h h' : Heap} {b : Addr} {its : Array Value} (x : h.IsList b its) (hk : ∀ b o, h.get? b = some o → h'.get? b = some o) : h'.IsList b its := let ⟨o, ho, r⟩ := x; ⟨o, hk _ _ ho, r⟩
set_option maxHeartbeats 1000000 in
theorem modes_comp {sa : Addr} {vs : List Value} {ns : List Int} {Q : Value → AS → Prop} (hh : C.A.handled = none) (hl : C.h₀.IsList sa vs.toArray) (hin : (S "script", some (.ref sa)) ∈ l) (hv : IntsAre vs ns) (hz : vs.length ≤ 1000)
    (h : ∀ a ws ms D', IntsAre ws ms → ms.length ≤ 5 → Q (.ref a) ⟨l, (a, listP ws) :: D' ++ D, g⟩) : W C ⟨l, D, g⟩ (eval lawC1 (lawEnv C.L fa cd)) Q := by
  refine ListComp_ [(S "x", none)] [] (by rfl) (by decide +kernel) (by kernel_rfl) (by decide +kernel) (by simp) (by simp) (by simp) ?_
  refine Sub_ ?_
  refine Name_local hin ?_
  refine Slice_ ?_
  refine Part_none ?_
  refine Part_some ?_
  refine Const_int fun t1 => ?_
  refine Part_none fun sl => ?_
  refine SliceI (its := vs) (fun s H => isList_keeps hl H.keep) (List.Mem.head _) .none (.int 5 t1) .none (by decide) (by omega) fun b => ?_
  have iw := slice_ints_uptoW hv (y := 5) (by decide)
  generalize (slicePick vs.toArray none (some 5) none).toList = ws at iw
  have hwl : ws.length ≤ 5 := by
    rw [iw.length, List.length_take]; exact Nat.min_le_left _ _
  intro C2 I2
  have kb : Kn C2 [] b (listP ws) := .inl (I2.led (b, listP ws) (List.Mem.head _))
  refine Iter_list (its := ws) (fun s H => kb.old.list H) fun J => ?_
  intro L acc
  refine ⟨fun Q' q => Self_list (List.Mem.tail _ (List.Mem.head _)) q, ?_⟩
  refine WComp.mono (WComp_map (C := { C2 with L := L }) (In := fun v m => ∃ n t, v = .int n t ∧ m = n.fmod 1048576) (Rout := fun _ y m => ∃ t, y = .int m t) (fun _ _ _ _ h _ => h) (show C2.A.handled = none by rw [I2.A]; exact hh) kb (by omega) ?_ rfl (by kernel_rfl) (by kernel_rfl)
    ((ns.take (5 : Int).toNat).map fun n => n.fmod 1048576) 0 [] [] none [] (paired_map (fun v n ⟨t, e⟩ => ⟨n, t, e, rfl⟩) (ints_paired iw)) (Nat.le_refl _) .nil) ?_
  · rintro v m D2 ⟨n, t, rfl, rfl⟩
    refine BinOp_ ?_
    refine Name_local (List.Mem.head _) ?_
    refine Const_int fun t2 => ?_
    refine Mod_int (by decide) fun t3 => ?_
    exact ⟨[], ⟨t3, rfl⟩, rfl⟩
  · rintro σ' ⟨o, us, K', hu, rfl⟩
    refine ⟨by simp, [(acc, listP us)], List.Sublist.cons_cons _ (List.nil_sublist _), ?_⟩
    exact h acc us _ [_, _] (paired_ints hu) (by simp; exact Nat.min_le_left _ _)
set_option maxHeartbeats 1000000 in
theorem spans_listcomp (LH : LawH C mg mb a) (R : Room C.A (k + 3)) (hg : AllBare g) {cs : List Nat} {tt : Tok} (hin : (S "text", some (.str (T cs) tt)) ∈ l) (hP : (a.P, tabP) ∈ D) {segs parts : List (List Nat)} {items : List (Bool × List (Nat × Nat))}
    (hp : Paired SegRel segs parts) (hpr : Paired PartRel parts items) (hcs : cs = segs.flatten) (hcz : cs.length ≤ 1000) (hsz : segs.length ≤ 100) (hpz : ∀ p ∈ parts, p.length ≤ 1000) {Q : Value → AS → Prop}
    (h : ∀ r ivs K g', AllBare g' → Paired (ItemM K) ivs items → Q (.ref r) ⟨l, (r, listP ivs) :: K ++ D, g'⟩) : W C ⟨l, D, g⟩ (eval lawC2 (lawEnv C.L fa cd)) Q := by
  refine ListComp_ [(S "part", none)] [] (by rfl) (by decide +kernel) (by kernel_rfl) (by decide +kernel) (by simp) (by simp) (by simp) ?_
  refine Call_fn LH.H.G LH.FT.fn ?_
  refine Args_cons ?_
  refine Name_local hin ?_
  refine Args_cons ?_
  refine Const_none ?_
  refine Args_cons ?_
  refine Const_str fun t1 => ?_
  refine Args_nil ?_
  refine translate_call LH.H LH.FT hP R hg hp hcs hcz hsz fun res vs g' hv hg' => ?_
  intro C2 I2
  have LH2 := LH.inn I2
  have R2 : Room C2.A (k + 3) := by rw [I2.A]; exact R
  have kb : Kn C2 [] res (listP vs) := .inl (I2.led (res, listP vs) (List.Mem.head _))
  refine Iter_list (its := vs) (fun s H => kb.old.list H) fun J => ?_
  intro L acc
  refine ⟨fun Q' q => Self_list (List.Mem.tail _ (List.Mem.head _)) q, ?_⟩
  have hvi : ∀ {vs : List Value} {parts : List (List Nat)} {items : List (Bool × List (Nat × Nat))}, Paired StrIs vs parts → Paired PartRel parts items → (∀ p ∈ parts, p.length ≤ 1000) → Paired (fun v it => ∃ cs, StrIs v cs ∧ PartRel cs it ∧ cs.length ≤ 1000) vs items := by
    intro vs parts items h1 h2
    induction h1 generalizing items with
    | nil => intro _; cases h2; exact .nil
    | cons hv _ ih =>
      intro hz
      cases h2 with
      | cons hp h2 => exact .cons ⟨_, hv, hp, hz _ (.head _)⟩ (ih h2 fun p hp => hz p (.tail _ hp))
  have hlen := paired_len hv
  have hlen2 := paired_len hp
  refine WComp.mono (WComp_map (C := { C2 with L := L }) (In := fun v it => ∃ cs, StrIs v cs ∧ PartRel cs it ∧ cs.length ≤ 1000) (Rout := ItemM) (fun _ _ _ _ h hq => h.to hq) (R2.handled) kb (by omega) ?_ rfl (by kernel_rfl) (by kernel_rfl)
    items 0 [] [] none [] (hvi hv hpr hpz) (Nat.le_refl _) .nil) ?_
  · rintro v it D2 ⟨cs, hcs, hpr, hz⟩
    obtain ⟨t, rfl⟩ := strIs_of hcs
    refine Call_fn LH2.H.G LH2.Fs ?_
    refine Args_cons ?_
    refine Name_local (List.Mem.head _) ?_
    refine Args_nil ?_
    refine spans_call (k := k + 2) LH2.H.G LH2.Fs LH2.H.hln LH2.H.hlb R2 hz hpr fun v D' hi => ?_
    exact ⟨D', hi, rfl⟩
  · rintro σ' ⟨o, us, K', hu, rfl⟩
    refine ⟨by simp, (acc, listP us) :: K', List.Sublist.refl _, ?_⟩
    have := h acc us (K' ++ [(res, listP vs)]) g' hg' (paired_imp (fun _ _ x => x.to fun q hq => List.mem_append_left _ hq) hu)
    simpa using this
def askedRel (vs : List Value) (ns : List Nat) : Prop := IntsAre vs (natInts ns) ∧ (∀ k ∈ ns, k < 12) ∧ ns.length ≤ 12
set_option maxHeartbeats 1000000 in
theorem asked_turns {elt target iter tst : PySem.Expr} {scope : Scope} {pos : Pos} (hs : lawC3 = compOf elt target iter [tst] scope pos) {acc I wa cw L₀ : Addr} {vs : List Value} {ws : List Int} (R : Room C.A 0) (kw : Kn C [] wa (listP vs)) (iw : IntsAre vs ws) (hlen : ws.length = 12) (cwk : C.h₀.IsCell cw (some (.ref wa))) :
    ∀ (n j : Nat) (its : List Value) (ns : List Nat) (o : Option Value), j + n = 12 → IntsAre its (natInts ns) → (∀ k ∈ ns, k < 12) → ns.length ≤ j →
      WComp C ⟨[(S "j", o)], [(acc, listP its), (I, rangeIterP j n 1)], g⟩ (compOf elt target iter [tst] scope pos) (.ref I) (.ref acc) (compEnvC scope [(S "wish", cw)] C.L (lawEnv L₀ fa cd))
        fun σ' => ∃ o vs' ns', askedRel vs' ns' ∧ σ' = ⟨[(S "j", o)], [(acc, listP vs')], g⟩ := by
  cases hs
  intro n
  induction n with
  | zero =>
    intro j its ns o hj hi hk hz
    refine WComp.step1 (Next_range_end (left := ((0 : Nat) : Int)) R.handled (by omega) (by walk_at "rx m") (by walk_at "rx d") ?_)
    dsimp only
    exact ⟨o, its, ns, ⟨hi, hk, by omega⟩, rfl⟩
  | succ n ih =>
    intro j its ns o hj hi hk hz
    obtain ⟨w, tw, hv⟩ := ints_nth iw (j := j) (by omega)
    have hil : its.length = ns.length := by rw [hi.length]; simp
    refine WComp.step1 (Next_range (left := ((n + 1 : Nat) : Int)) (by omega) (by walk_at "rx ud") fun tk => ?_)
    have e : (((n + 1 : Nat) : Int) - 1) = (n : Int) := by omega
    rw [e]
    dsimp only
    refine let_plain ?_
    refine Assign_target ?_
    refine Store_local (by walk_at "rx u") ?_
    refine Test_cmp ?_
    refine Sub_ ?_
    refine Name_cell0 (by rfl) cwk ?_
    refine Name_local (by walk_at "rx m") ?_
    refine ItemN kw.old hv (by omega) ?_
    refine Const_int fun t1 => ?_
    refine Gt_int ⟨_, rfl, ?_⟩
    refine ite_b (fun h0 => ?_) (fun h0 => ?_)
    · refine Name_local (by walk_at "rx m") ?_
      refine ⟨acc, its, _, rfl, by omega, by walk_at "rx ud", ?_⟩
      refine ih (j + 1) (its ++ [.int j tk]) (ns ++ [j]) _ (by omega) ?_ ?_ (by simp; omega)
      · have := ints_snoc hi (j : Int) tk
        simpa [natInts] using this
      · intro x hx
        rcases List.mem_append.mp hx with hx | hx
        · exact hk x hx
        · cases List.mem_singleton.mp hx; omega
    · exact ih (j + 1) its ns _ (by omega) hi hk (by omega)
end
end
section
open PySem.Calls PyProof.V PySem.Spec PySem.SeqAt
open StrLaws
theorem paired_bools {vs : List Value} {bs : List Bool} (h : Paired (fun v b => v = Value.bool b) vs bs) : vs = bs.map Value.bool := by
  induction h with
  | nil => rfl
  | cons h _ ih => rw [h, ih]; rfl
theorem modeSigns_len (m : Int) : (modeSigns m).length = 10 := rfl
section
variable {C : Cx} {l : Loc} {D : Led} {g : Array GenState} {mg mb : Str → Option Value} {a : LawA} {fa : Addr} {cd : Value} {k : Nat}
set_option maxHeartbeats 1000000 in
theorem asked_stmt (LH : LawH C mg mb a) (R : Room C.A 0) {wa : Addr} {vs : List Value} {ws : List Int} (kw : (wa, listP vs) ∈ D) (iw : IntsAre vs ws) (hlen : ws.length = 12) (hcell : (C.L + 2, cellP (some (.ref wa))) ∈ D) {Q : Flow → AS → Prop}
    (h : ∀ r vs' ns' D', askedRel vs' ns' → ∃ l', Upd l (S "asked") (.ref r) l' ∧ Q .next ⟨l', (r, listP vs') :: D' ++ D, g⟩) : W C ⟨l, D, g⟩ (exec (lawQ 4) (lawEnv C.L fa cd)) Q := by
  refine Assign_ListComp [(S "j", none)] [(S "wish", C.L + 2)] (by rfl) (by rfl) (by decide +kernel) (by kernel_rfl) (by decide +kernel) (by simp) (by simp) (by simp) ?_
  refine Call_ty LH.H.G LH.H.hr LH.H.hrb ?_
  refine Args_cons ?_
  refine Const_int fun t8 => ?_
  refine Args_nil ?_
  refine Range1 fun ra => ?_
  intro C2 I2
  refine Iter_range (a := 0) (b := 12) (c := 1) (fun s H => ?_) (by rfl) fun I => ?_
  · obtain ⟨o, ho, hp⟩ := I2.led (ra, rangeP 0 12 1) (List.Mem.head _)
    exact ⟨o, H.keep _ _ ho, hp⟩
  intro L acc
  refine ⟨fun Q' q => Self_range (by walk_at "rx m") q, ?_⟩
  have c1 : C2.h₀.IsCell (C.L + 2) (some (.ref wa)) := by
    obtain ⟨o, ho, hp⟩ := I2.led (C.L + 2, cellP (some (.ref wa))) (List.Mem.tail _ hcell)
    exact ⟨o, ho, hp⟩
  have kw2 : Kn C2 [] wa (listP vs) := .inl (I2.led (wa, listP vs) (List.Mem.tail _ kw))
  refine WComp.mono (asked_turns (C := { C2 with L := L }) (by rfl) (by show Room C2.A 0; rw [I2.A]; exact R) kw2 iw hlen c1 12 0 [] [] none rfl .nil (by simp) (Nat.zero_le _)) ?_
  rintro σ' ⟨o, vs', ns', hr, rfl⟩
  obtain ⟨l', u, q⟩ := h acc vs' ns' [(ra, rangeP 0 12 1)] hr
  exact ⟨by simp, [(acc, listP vs')], List.Sublist.refl _, l', u, q⟩
set_option maxHeartbeats 1000000 in
theorem shown_stmt (LH : LawH C mg mb a) (R : Room C.A (k + 2)) {mo : Addr} {vs : List Value} {ns : List Int} (hin : (S "modes", some (.ref mo)) ∈ l) (km : (mo, listP vs) ∈ D) (iv : IntsAre vs ns) (hz : ns.length ≤ 1000) {Q : Flow → AS → Prop}
    (h : ∀ r us, Paired StrIs us (ns.map modeSigns) → ∃ l', Upd l (S "shown") (.ref r) l' ∧ Q .next ⟨l', (r, listP us) :: D, g⟩) : W C ⟨l, D, g⟩ (exec (lawS 4) (lawEnv C.L fa cd)) Q := by
  refine Assign_ListComp [(S "mode", none)] [] (by rfl) (by rfl) (by decide +kernel) (by kernel_rfl) (by decide +kernel) (by simp) (by simp) (by simp) ?_
  refine Name_local hin ?_
  intro C2 I2
  have LH2 := LH.inn I2
  have R2 : Room C2.A (k + 2) := by rw [I2.A]; exact R
  have kb : Kn C2 [] mo (listP vs) := .inl (I2.led (mo, listP vs) km)
  refine Iter_list (its := vs) (fun s H => kb.old.list H) fun J => ?_
  intro L acc
  refine ⟨fun Q' q => Self_list (List.Mem.tail _ (List.Mem.head _)) q, ?_⟩
  refine WComp.mono (WComp_map (C := { C2 with L := L }) (In := fun v cs => ∃ n t, v = .int n t ∧ cs = modeSigns n) (Rout := fun _ => StrIs) (fun _ _ _ _ h _ => h) R2.handled kb (by rw [iv.length]; exact hz) ?_ rfl (by kernel_rfl) (by kernel_rfl)
    (ns.map modeSigns) 0 [] [] none [] (paired_map (fun v n ⟨t, e⟩ => ⟨n, t, e, rfl⟩) (ints_paired iv)) (Nat.le_refl _) .nil) ?_
  · rintro v cs D2 ⟨n, t, rfl, rfl⟩
    refine Call_fn LH2.H.G LH2.Ff ?_
    refine Args_cons ?_
    refine Name_local (List.Mem.head _) ?_
    refine Args_nil ?_
    refine filemode_call (k := k) LH2.H.G LH2.Ff LH2.Fi LH2.hen LH2.heb LH2.hT LH2.hF R2 fun t2 => ?_
    exact ⟨[], ⟨_, t2, rfl, rfl⟩, rfl⟩
  · rintro σ' ⟨o, us, K', hu, rfl⟩
    obtain ⟨l', u, q⟩ := h acc us (by simpa using hu)
    exact ⟨by simp, [(acc, listP us)], List.Sublist.cons_cons _ (List.nil_sublist _), l', u, q⟩
set_option maxHeartbeats 1000000 in
theorem told_stmt (LH : LawH C mg mb a) (R : Room C.A (k + 1)) {sh ia : Addr} {us ivs : List Value} {css : List (List Nat)} {its : List (Bool × List (Nat × Nat))} (hin : (S "shown", some (.ref sh)) ∈ l) (ks : (sh, listP us) ∈ D) (hu : Paired StrIs us css) (hz : css.length ≤ 1000) (hcz : ∀ cs ∈ css, cs.length ≤ 1000)
    (hcell : (C.L + 3, cellP (some (.ref ia))) ∈ D) (ki : (ia, listP ivs) ∈ D) (hi : Paired (ItemM D) ivs its) (hz1 : its.length ≤ 1000) (hz2 : ∀ it ∈ its, it.2.length ≤ 1000) {Q : Flow → AS → Prop}
    (h : ∀ r, ∃ l', Upd l (S "told") (.ref r) l' ∧ Q .next ⟨l', (r, listP ((css.map (takesV its)).map Value.bool)) :: D, g⟩) : W C ⟨l, D, g⟩ (exec (lawT 0) (lawEnv C.L fa cd)) Q := by
  refine Assign_ListComp [(S "text", none)] [(S "items", C.L + 3)] (by rfl) (by rfl) (by decide +kernel) (by kernel_rfl) (by decide +kernel) (by simp) (by simp) (by simp) ?_
  refine Name_local hin ?_
  intro C2 I2
  have LH2 := LH.inn I2
  have R2 : Room C2.A (k + 1) := by rw [I2.A]; exact R
  have kb : Kn C2 [] sh (listP us) := .inl (I2.led (sh, listP us) ks)
  have c1 : C2.h₀.IsCell (C.L + 3) (some (.ref ia)) := by
    obtain ⟨o, ho, hp⟩ := I2.led (C.L + 3, cellP (some (.ref ia))) hcell
    exact ⟨o, ho, hp⟩
  have kiv : ∀ {L : Addr} {D2 : Led}, ItemsV { C2 with L := L } D2 ia its := fun {L D2} => ⟨ivs, .inl (I2.led _ ki), paired_imp (fun _ _ x => x.toV fun q hq => .inl (I2.led q hq)) hi⟩
  refine Iter_list (its := us) (fun s H => kb.old.list H) fun J => ?_
  intro L acc
  refine ⟨fun Q' q => Self_list (List.Mem.tail _ (List.Mem.head _)) q, ?_⟩
  have hin2 : ∀ {us : List Value} {css : List (List Nat)}, Paired StrIs us css → (∀ cs ∈ css, cs.length ≤ 1000) → Paired (fun v b => ∃ cs, StrIs v cs ∧ cs.length ≤ 1000 ∧ b = takesV its cs) us (css.map (takesV its)) := by
    intro us css h1
    induction h1 with
    | nil => intro _; exact .nil
    | cons hv _ ih => intro hz; exact .cons ⟨_, hv, hz _ (.head _), rfl⟩ (ih fun p hp => hz p (.tail _ hp))
  refine WComp.mono (WComp_map (C := { C2 with L := L }) (In := fun v b => ∃ cs, StrIs v cs ∧ cs.length ≤ 1000 ∧ b = takesV its cs) (Rout := fun _ v b => v = .bool b) (fun _ _ _ _ h _ => h) R2.handled kb (by rw [paired_len hu]; exact hz) ?_ rfl (by kernel_rfl) (by kernel_rfl)
    (css.map (takesV its)) 0 [] [] none [] (hin2 hu hcz) (Nat.le_refl _) .nil) ?_
  · rintro v b D2 ⟨cs, hv, hcs, rfl⟩
    obtain ⟨t, rfl⟩ := strIs_of hv
    refine Call_fn LH2.H.G LH2.Fk ?_
    refine Args_cons ?_
    refine Name_cell0 (by rfl) c1 ?_
    refine Args_cons ?_
    refine Name_local (List.Mem.head _) ?_
    refine Args_nil ?_
    refine takes_call (k := k) LH2.H.G LH2.Fk LH2.H.hr LH2.H.hrb LH2.H.hln LH2.H.hlb R2 kiv hz1 hcs hz2 ?_
    exact ⟨[], rfl, rfl⟩
  · rintro σ' ⟨o, vs', K', hu, rfl⟩
    have e := paired_bools hu
    rw [List.nil_append] at e
    subst e
    obtain ⟨l', u, q⟩ := h acc
    exact ⟨by simp, [_], List.Sublist.cons_cons _ (List.nil_sublist _), l', u, q⟩
set_option maxHeartbeats 1000000 in
theorem holds_listcomp (LH : LawH C mg mb a) (R : Room C.A (k + 1)) {mo wa : Addr} {vs wvs : List Value} {ns ws : List Int} {kind : Int} {tk : Tok} (hin : (S "modes", some (.ref mo)) ∈ l) (km : (mo, listP vs) ∈ D) (iv : IntsAre vs ns) (hz : ns.length ≤ 1000)
    (hc1 : (C.L + 1, cellP (some (.int kind tk))) ∈ D) (hc2 : (C.L + 2, cellP (some (.ref wa))) ∈ D) (kw : (wa, listP wvs) ∈ D) (iw : IntsAre wvs ws) (hlen : ws.length = 12) (hk0 : 0 ≤ kind) {Q : Value → AS → Prop}
    (h : ∀ r, Q (.ref r) ⟨l, (r, listP ((ns.map (holdsV kind ws)).map Value.bool)) :: D, g⟩) : W C ⟨l, D, g⟩ (eval lawC6 (lawEnv C.L fa cd)) Q := by
  refine ListComp_ [(S "mode", none)] [(S "wish", C.L + 2), (S "kind", C.L + 1)] (by rfl) (by decide +kernel) (by kernel_rfl) (by decide +kernel) (by simp) (by simp) (by simp) ?_
  refine Name_local hin ?_
  intro C2 I2
  have LH2 := LH.inn I2
  have R2 : Room C2.A (k + 1) := by rw [I2.A]; exact R
  have kb : Kn C2 [] mo (listP vs) := .inl (I2.led (mo, listP vs) km)
  have kw2 : ∀ {L : Addr} {D2 : Led}, Kn { C2 with L := L } D2 wa (listP wvs) := fun {L D2} => .inl (I2.led (wa, listP wvs) kw)
  have c1 : C2.h₀.IsCell (C.L + 1) (some (.int kind tk)) := by
    obtain ⟨o, ho, hp⟩ := I2.led _ hc1
    exact ⟨o, ho, hp⟩
  have c2 : C2.h₀.IsCell (C.L + 2) (some (.ref wa)) := by
    obtain ⟨o, ho, hp⟩ := I2.led _ hc2
    exact ⟨o, ho, hp⟩
  refine Iter_list (its := vs) (fun s H => kb.old.list H) fun J => ?_
  intro L acc
  refine ⟨fun Q' q => Self_list (List.Mem.tail _ (List.Mem.head _)) q, ?_⟩
  refine WComp.mono (WComp_map (C := { C2 with L := L }) (In := fun v b => ∃ n t, v = .int n t ∧ b = holdsV kind ws n) (Rout := fun _ v b => v = .bool b) (fun _ _ _ _ h _ => h) R2.handled kb (by rw [iv.length]; exact hz) ?_ rfl (by kernel_rfl) (by kernel_rfl)
    (ns.map (holdsV kind ws)) 0 [] [] none [] (paired_map (fun v n ⟨t, e⟩ => ⟨n, t, e, rfl⟩) (ints_paired iv)) (Nat.le_refl _) .nil) ?_
  · rintro v b D2 ⟨n, t, rfl, rfl⟩
    refine Call_fn LH2.H.G LH2.Fh ?_
    refine Args_cons ?_
    refine Name_cell0 (by rfl) c1 ?_
    refine Args_cons ?_
    refine Name_cell0 (by rfl) c2 ?_
    refine Args_cons ?_
    refine Name_local (List.Mem.head _) ?_
    refine Args_nil ?_
    refine holds_call (k := k) LH2.H.G LH2.Fh LH2.H.hr LH2.H.hrb R2 kw2 iw hlen hk0 ?_
    exact ⟨[], rfl, rfl⟩
  · rintro σ' ⟨o, vs', K', hu, rfl⟩
    have e := paired_bools hu
    rw [List.nil_append] at e
    subst e
    exact ⟨by simp, [_], List.Sublist.cons_cons _ (List.nil_sublist _), h acc⟩
end
end
section
open PySem.Calls PyProof.V PySem.Spec PySem.SeqAt
open StrLaws
abbrev lawLoc (sa : Addr) (modes drawn questions k text made asked shown told : Option Value) : Loc :=
  [(S "script", some (.ref sa)), (S "modes", modes), (S "drawn", drawn), (S "questions", questions), (S "k", k), (S "text", text), (S "made", made), (S "asked", asked), (S "shown", shown), (S "told", told)]
/-- a question as the law keeps it -/
def QM (K : Led) (v : Value) : Prop := ∃ t wa ia tk wvs ivs its, ∃ (kind : Int) (wl : List Int), v = .ref t ∧ (t, tupP [.int kind tk, .ref wa, .ref ia]) ∈ K ∧ (wa, listP wvs) ∈ K ∧ IntsAre wvs wl ∧ wl.length = 12 ∧ 0 ≤ kind ∧ (ia, listP ivs) ∈ K ∧ Paired (ItemM K) ivs its ∧ its.length ≤ 1000 ∧ (∀ it ∈ its, it.2.length ≤ 1000) ∧
  ∀ m, takesV its (modeSigns m) = holdsV kind wl m
theorem QM.to {K K' : Led} {v : Value} (x : QM K v) (h : ∀ q ∈ K, q ∈ K') : QM K' v := by
  obtain ⟨t, wa, ia, tk, wvs, ivs, its, kind, wl, h1, h2, h3, h4, h5, h6, h7, h8, r⟩ := x
  exact ⟨t, wa, ia, tk, wvs, ivs, its, kind, wl, h1, h _ h2, h _ h3, h4, h5, h6, h _ h7, paired_imp (fun _ _ y => y.to h) h8, r⟩
abbrev lawX (L mo qu P : Addr) (mvs qvs : List Value) (ck cw ci : Option Value) : Led := [(mo, listP mvs), (qu, listP qvs), (L + 1, cellP ck), (L + 2, cellP cw), (L + 3, cellP ci), (P, tabP)]
theorem W.tuck {α : Type} {C : Cx} {l : Loc} {X D' K DD : Led} {g : Array GenState} {t : Sem α} {Q : α → AS → Prop} (h : W C ⟨l, X ++ (D' ++ K), g⟩ t Q) (hs : (X ++ K).Sublist DD) : W C ⟨l, D' ++ DD, g⟩ t Q :=
  W.weak (σ' := ⟨l, D' ++ (X ++ K), g⟩) (h.perm (by rw [← List.append_assoc, ← List.append_assoc]; exact List.Perm.append_right K List.perm_append_comm)) rfl ((List.Sublist.refl D').append hs) rfl
theorem fmod_nat (j d : Nat) : (j : Int).fmod (d : Int) = ((j % d : Nat) : Int) := by
  rw [Int.fmod_eq_emod_of_nonneg _ (by omega)]; exact (Int.natCast_emod ..).symm
theorem fmod_in (x : Int) {n : Nat} (hn : 0 < n) : ∃ i : Nat, x.fmod (n : Int) = i ∧ i < n := by
  have h0 : 0 ≤ x.fmod (n : Int) := Int.fmod_nonneg_of_pos _ (by omega)
  have h1 : x.fmod (n : Int) < n := Int.fmod_lt_of_pos _ (by omega)
  obtain ⟨i, hi⟩ := Int.eq_ofNat_of_zero_le h0
  exact ⟨i, hi, by omega⟩
section
variable {C : Cx} {g : Array GenState} {mg mb : Str → Option Value} {a : LawA} {fa sa mo qu : Addr} {cd : Value} {k : Nat}
set_option maxHeartbeats 2000000 in
/-- the question is drawn -/
theorem turn_question (LH : LawH C mg mb a) (R : Room C.A (k + 3)) {svs : List Value} {sns : List Int} (hl : C.h₀.IsList sa svs.toArray) (hv : IntsAre svs sns) (hsz : svs.length ≤ 1000) {j : Nat} (hj : j < 3) {tj : Tok} {p : Addr × (Obj → Prop)} {mvs qvs : List Value} {ck cw ci : Option Value} {K : Led} {m d q tx md ask : Option Value} {Q : Flow → AS → Prop}
    (h : ∀ (kind : Nat) (ws : List Nat) (wvs : List Value) (wa : Addr) (tk tt : Tok) (K' : Led), kind < 10 → ws.length = 13 → (∀ k ∈ ws, k < 3) → IntsAre wvs (natInts (ws.take 12)) → (wa, listP wvs) ∈ K' → (∀ q ∈ K, q ∈ K') →
      Q .next ⟨lawLoc sa m d q (some (.int j tj)) (some (.str (T (segsOf kind ws).flatten) tt)) md ask none none, (p :: lawX C.L mo qu a.P mvs qvs (some (.int kind tk)) (some (.ref wa)) ci) ++ K', g⟩) :
    W C ⟨lawLoc sa m d q (some (.int j tj)) tx md ask none none, (p :: lawX C.L mo qu a.P mvs qvs ck cw ci) ++ K, g⟩ (exec (lawQ 0) (lawEnv C.L fa cd)) Q := by
  refine Assign_tuple ?_
  refine Call_fn LH.H.G LH.Fq ?_
  refine Args_cons ?_
  refine BinOp_ ?_
  refine Sub_ ?_
  refine List_disp ?_
  refine Args_cons ?_
  refine Const_int fun t1 => ?_
  refine Args_cons ?_
  refine Const_int fun t2 => ?_
  refine Args_cons ?_
  refine Const_int fun t3 => ?_
  refine Args_nil ⟨show (3 : Nat) ≤ sizeLine from by decide, fun la => ?_⟩
  have i3 : IntsAre [Value.int 14619 t1, .int 14302985 t2, .int 5314420 t3] [14619, 14302985, 5314420] := .cons _ _ <| .cons _ _ <| .cons _ _ .nil
  obtain ⟨x, tx', hx⟩ := ints_nth i3 (j := j) hj
  refine Name_local (by walk_at "rx m") ?_
  refine ItemN (.inr (List.Mem.head _)) hx (by omega) ?_
  refine Call_bi LH.H.G LH.han LH.hab ?_
  refine Args_cons ?_
  refine Call_bi LH.H.G LH.hun LH.hub ?_
  refine Args_cons ?_
  refine Sub_ ?_
  refine Sub_ ?_
  refine Name_local (by walk_at "rx m") ?_
  refine Slice_ ?_
  refine Part_none ?_
  refine Part_some ?_
  refine Const_int fun t4 => ?_
  refine Part_none fun s1 => ?_
  refine SliceI (its := svs) (fun s H => isList_keeps hl H.keep) (List.Mem.head _) .none (.int 24 t4) .none (by decide) (by omega) fun b1 => ?_
  have iw := slice_ints_uptoW hv (y := 24) (by decide)
  generalize (slicePick svs.toArray none (some 24) none).toList = v1 at iw
  have hz1 : v1.length ≤ 24 := by rw [iw.length, List.length_take]; exact Nat.min_le_left _ _
  refine Slice_ ?_
  refine Part_some ?_
  refine Name_local (by walk_at "rx m") ?_
  refine Part_none ?_
  refine Part_some ?_
  refine Const_int fun t5 => ?_
  intro s2
  refine SliceL (its := v1) (.inr (List.Mem.tail _ (List.Mem.head _))) (List.Mem.head _) (.int j tj) .none (.int 3 t5) (by decide) (by omega) fun b2 => ?_
  have iw2 := iw.pick (some (j : Int)) none (some 3)
  refine Args_nil ?_
  refine Sum_ints R.handled (.inr (List.Mem.head _)) iw2 fun t6 => ?_
  refine Args_nil ?_
  refine Abs_int fun t7 => ?_
  refine Add_int fun t8 => ?_
  refine Args_nil ?_
  refine question_call (k := k + 2) LH.H.G LH.Fq LH.H.hr LH.H.hrb R fun kind ws wvs t wa tk tt D' hk hwl hw3 iwv ht hwa => ?_
  refine W.tuck (X := p :: lawX C.L mo qu a.P mvs qvs ck cw ci) (K := K) ?_ (List.Sublist.cons _ (List.Sublist.cons _ (List.Sublist.cons _ (List.Sublist.cons _ (List.Sublist.cons _ (List.Sublist.refl _))))))
  refine Assign_trip R.handled (a := .int kind tk) (b := .ref wa) (c := .str (T (segsOf kind ws).flatten) tt) (List.mem_append_right _ (List.mem_append_left _ ht)) ?_
  refine Assign_target ?_
  refine Store_cell (c := C.L + 1) (by rfl) (by walk_at "rx ud") ?_
  refine Assign_target ?_
  refine Store_cell (c := C.L + 2) (by rfl) (by walk_at "rx ud") ?_
  refine Assign_target ?_
  refine Store_local (by walk_at "rx u") ?_
  exact h kind ws wvs wa tk tt (D' ++ K) hk hwl hw3 iwv (List.mem_append_left _ hwa) fun q hq => List.mem_append_right _ hq
end
end
section
open PySem.Calls PyProof.V PySem.Spec PySem.SeqAt
open StrLaws
section
variable {C : Cx} {g : Array GenState} {mg mb : Str → Option Value} {a : LawA} {fa sa mo qu : Addr} {cd : Value} {k : Nat}
set_option maxHeartbeats 2000000 in
/-- the question is kept -/
theorem turn_keep (LH : LawH C mg mb a) (R : Room C.A (k + 3)) (hg : AllBare g) {kind : Nat} {ws : List Nat} {wvs : List Value} {wa : Addr} {tk tt : Tok} (hk : kind < 10) (hwl : ws.length = 13) (hw3 : ∀ k ∈ ws, k < 3) (iw : IntsAre wvs (natInts (ws.take 12)))
    {p : Addr × (Obj → Prop)} {mvs qvs : List Value} (hqz : qvs.length ≤ 100) {ci : Option Value} {K : Led} (hwa : (wa, listP wvs) ∈ K) {m d kv md ask : Option Value} {rest : List Stmt} {Q : Flow → AS → Prop}
    (h : ∀ v K' g', AllBare g' → (∀ q ∈ K, q ∈ K') → QM K' v →
      W C ⟨lawLoc sa m d (some (.ref qu)) kv (some (.str (T (segsOf kind ws).flatten) tt)) md ask none none, (p :: lawX C.L mo qu a.P mvs (qvs ++ [v]) (some (.int kind tk)) (some (.ref wa)) ci) ++ K', g'⟩ (execs rest (lawEnv C.L fa cd)) Q) :
    W C ⟨lawLoc sa m d (some (.ref qu)) kv (some (.str (T (segsOf kind ws).flatten) tt)) md ask none none, (p :: lawX C.L mo qu a.P mvs qvs (some (.int kind tk)) (some (.ref wa)) ci) ++ K, g⟩ (execs (lawQ 1 :: rest) (lawEnv C.L fa cd)) Q := by
  obtain ⟨parts, hp, hpr, hpz, hfl, hit⟩ := segs_parts (segs_in hk hw3)
  rw [segsOf_len] at hfl
  refine Execs_cons ?_
  refine Expr_stmt ?_
  refine Append_ ?_
  refine Name_local (by walk_at "rx m") ⟨qu, rfl, ⟨_, by walk_at "rx m"⟩, ?_⟩
  refine Tuple_disp ?_
  refine Args_cons ?_
  refine Name_cell (c := C.L + 1) (by rfl) (by walk_at "rx m") ?_
  refine Args_cons ?_
  refine Name_cell (c := C.L + 2) (by rfl) (by walk_at "rx m") ?_
  refine Args_cons ?_
  refine spans_listcomp (k := k) LH R hg (by walk_at "rx m") (by walk_at "rx m") hp hpr rfl (by omega) (by rw [segsOf_len]; decide) hpz fun r ivs K2 g' hg' hi => ?_
  refine Args_nil ⟨show (3 : Nat) ≤ sizeLine from by decide, fun tu => ?_⟩
  refine ⟨qvs, (tu, tupP [.int kind tk, .ref wa, .ref r]) :: (r, listP ivs) :: (K2 ++ ((p :: lawX C.L mo qu a.P mvs (qvs ++ [.ref tu]) (some (.int kind tk)) (some (.ref wa)) ci) ++ K)), by omega, ?_, (fun b e => nomatch e), ?_⟩
  · exact .there (.there (UpdD.app (by walk_at "rx ud") K2))
  have mem : ∀ q ∈ K2, q ∈ (((tu, tupP [.int kind tk, .ref wa, .ref r]) :: (r, listP ivs) :: K2) ++ K) := fun q hq => List.mem_append_left _ (List.Mem.tail _ (List.Mem.tail _ hq))
  refine W.tuck (X := p :: lawX C.L mo qu a.P mvs (qvs ++ [.ref tu]) (some (.int kind tk)) (some (.ref wa)) ci) (D' := (tu, tupP [.int kind tk, .ref wa, .ref r]) :: (r, listP ivs) :: K2) (K := K) ?_ (List.Sublist.refl _)
  exact h (.ref tu) (((tu, tupP [.int kind tk, .ref wa, .ref r]) :: (r, listP ivs) :: K2) ++ K) g' hg' (fun q hq => List.mem_append_right _ hq)
    ⟨tu, wa, r, tk, wvs, ivs, (segsOf kind ws).map itemOf, kind, natInts (ws.take 12), rfl, List.Mem.head _, List.mem_append_right _ hwa, iw, by simp [natInts]; omega, by omega, List.Mem.tail _ (List.Mem.head _), paired_imp (fun _ _ x => x.to mem) hi, by simp [segsOf_len], hit, fun m => plain_law hk hwl hw3 m⟩
set_option maxHeartbeats 2000000 in
/-- a mode is made for the question, and another with one bit turned -/
theorem turn_made (LH : LawH C mg mb a) (R : Room C.A (k + 3)) {svs : List Value} {sns : List Int} (hl : C.h₀.IsList sa svs.toArray) (hv : IntsAre svs sns) (hsz : svs.length ≤ 1000) {kind : Nat} {ws : List Nat} {wvs : List Value} {wa : Addr} {tk : Tok} (hk : kind < 10) (hwl : ws.length = 13) (iw : IntsAre wvs (natInts (ws.take 12)))
    {j dn : Nat} {tj td : Tok} (hd0 : 0 < dn) {p : Addr × (Obj → Prop)} {mvs qvs : List Value} {ns : List Int} (im : IntsAre mvs ns) (hdn : dn ≤ ns.length) (hnz : ns.length ≤ 100) {ci : Option Value} {K : Led} (hwa : (wa, listP wvs) ∈ K) {tx md ask : Option Value} {Q : Flow → AS → Prop}
    (h : ∀ mvs' ns' K' md ask, IntsAre mvs' ns' → dn ≤ ns'.length → ns'.length ≤ ns.length + 2 → (∀ q ∈ K, q ∈ K') →
      Q .next ⟨lawLoc sa (some (.ref mo)) (some (.int dn td)) (some (.ref qu)) (some (.int j tj)) tx md ask none none, (p :: lawX C.L mo qu a.P mvs' qvs (some (.int kind tk)) (some (.ref wa)) ci) ++ K', g⟩) :
    W C ⟨lawLoc sa (some (.ref mo)) (some (.int dn td)) (some (.ref qu)) (some (.int j tj)) tx md ask none none, (p :: lawX C.L mo qu a.P mvs qvs (some (.int kind tk)) (some (.ref wa)) ci) ++ K, g⟩ (execs ((bodyOf (lawS 3)).drop 2) (lawEnv C.L fa cd)) Q := by
  have hl12 : (natInts (ws.take 12)).length = 12 := by simp [natInts]; omega
  have hmz := im.length
  change W C _ (execs (_ :: _ :: _ :: _ :: _) _) _
  obtain ⟨x, tx', hx⟩ := ints_nth im (j := j % dn) (Nat.lt_of_lt_of_le (Nat.mod_lt _ hd0) hdn)
  have hjd := Nat.mod_lt j hd0
  refine Execs_cons ?_
  refine Assign_Name ?_
  refine Call_fn LH.H.G LH.Fm ?_
  refine Args_cons ?_
  refine Name_cell (c := C.L + 1) (by rfl) (by walk_at "rx m") ?_
  refine Args_cons ?_
  refine Name_cell (c := C.L + 2) (by rfl) (by walk_at "rx m") ?_
  refine Args_cons ?_
  refine Sub_ ?_
  refine Name_local (by walk_at "rx m") ?_
  refine BinOp_ ?_
  refine Name_local (by walk_at "rx m") ?_
  refine Name_local (by walk_at "rx m") ?_
  refine Mod_int (by omega) fun t1 => ?_
  refine ItemZ (k := j % dn) (.inr (by walk_at "rx m")) (fmod_nat j dn) hx (by omega) ?_
  refine Args_nil ?_
  refine made_call (k := k + 2) LH.H.G LH.Fm LH.H.hr LH.H.hrb LH.hun LH.hub R (.inr (List.mem_append_right _ hwa)) iw hl12 hk fun v tv => ?_
  refine Store_local (by walk_at "rx u") ?_
  refine Execs_cons ?_
  refine Expr_stmt ?_
  refine Append_ ?_
  refine Name_local (by walk_at "rx m") ⟨mo, rfl, ⟨_, by walk_at "rx m"⟩, ?_⟩
  refine Name_local (by walk_at "rx m") ?_
  refine ⟨mvs, _, by omega, by walk_at "rx ud", (fun b e => nomatch e), ?_⟩
  have im2 := ints_snoc im v tv
  change W C ⟨_, (p :: lawX C.L mo qu a.P (mvs ++ [.int v tv]) qvs (some (.int kind tk)) (some (.ref wa)) ci) ++ K, g⟩ (execs _ _) _
  refine Execs_cons ?_
  refine asked_stmt (fa := fa) (cd := cd) LH (R.less (Nat.zero_le _)) (wa := wa) (vs := wvs) (ws := natInts (ws.take 12)) ?_ iw hl12 ?_ ?_
  · exact List.mem_append_right _ hwa
  · walk_at "rx m"
  intro r avs ans D' hr
  refine ⟨_, by walk_at "rx u", ?_⟩
  obtain ⟨ia, ha12, haz⟩ := hr
  refine W.weak (σ' := ⟨_, (r, listP avs) :: ((p :: lawX C.L mo qu a.P (mvs ++ [.int v tv]) qvs (some (.int kind tk)) (some (.ref wa)) ci) ++ K), g⟩) ?_ rfl (List.Sublist.cons_cons _ (List.sublist_append_right D' _)) rfl
  refine Execs_cons ?_
  refine If_ ?_
  refine Test_cmp ?_
  refine Name_local (by walk_at "rx m") ?_
  refine List_disp ?_
  refine Args_nil ⟨show (0 : Nat) ≤ sizeLine from by decide, fun e0 => ?_⟩
  refine Ne_ints (ns := natInts ans) (ms := []) (.inr (List.Mem.tail _ (List.Mem.head _))) (.inr (List.Mem.head _)) ia .nil (by have := R.units; omega) ⟨_, rfl, ?_⟩
  have hnl : ns.length + 1 = (ns ++ [v]).length := by simp
  refine ite_b (fun hne => ?_) (fun hne => ?_)
  · have hpos : 0 < ans.length := by
      cases ans with
      | nil => simp [natInts] at hne
      | cons x r => simp
    have hal : avs.length = ans.length := by rw [ia.length]; simp
    refine W.weak (σ' := ⟨_, (r, listP avs) :: ((p :: lawX C.L mo qu a.P (mvs ++ [.int v tv]) qvs (some (.int kind tk)) (some (.ref wa)) ci) ++ K), g⟩) ?_ rfl (List.sublist_cons_self _ _) rfl
    refine Execs_cons ?_
    refine Expr_stmt ?_
    refine Append_ ?_
    refine Name_local (by walk_at "rx m") ⟨mo, rfl, ⟨_, by walk_at "rx m"⟩, ?_⟩
    refine BinOp_ ?_
    refine Name_local (by walk_at "rx m") ?_
    refine BinOp_ ?_
    refine Const_int fun t2 => ?_
    refine Sub_ ?_
    refine Name_local (by walk_at "rx m") ?_
    refine BinOp_ ?_
    refine Call_bi LH.H.G LH.hun LH.hub ?_
    refine Args_cons ?_
    refine Sub_ ?_
    refine Name_local (by walk_at "rx m") ?_
    refine Slice_ ?_
    refine Part_none ?_
    refine Part_some ?_
    refine Const_int fun t4 => ?_
    refine Part_none fun s1 => ?_
    refine SliceI (its := svs) (fun s H => isList_keeps hl H.keep) (List.Mem.head _) .none (.int 24 t4) .none (by decide) (by omega) fun b1 => ?_
    have iw3 := slice_ints_uptoW hv (y := 24) (by decide)
    generalize (slicePick svs.toArray none (some 24) none).toList = v1 at iw3
    refine Args_nil ?_
    refine Sum_ints R.handled (.inr (List.Mem.head _)) iw3 fun t5 => ?_
    refine Call_bi LH.H.G LH.H.hln LH.H.hlb ?_
    refine Args_cons ?_
    refine Name_local (by walk_at "rx m") ?_
    refine Args_nil ?_
    refine Len_L (.inr (List.Mem.tail _ (List.Mem.tail _ (List.Mem.head _)))) (by omega) fun t6 => ?_
    rw [hal]
    obtain ⟨i, hi, hil⟩ := fmod_in (sns.take (24 : Int).toNat).sum hpos
    obtain ⟨ta, hav⟩ := nat_get ia hil
    refine Mod_int (by omega) fun t7 => ?_
    refine ItemZ (k := i) (.inr (List.Mem.tail _ (List.Mem.tail _ (List.Mem.head _)))) hi hav (by omega) ?_
    have h12 : ans.getD i 0 < 12 := ha12 _ (List.mem_of_getElem? (getD_some hil 0))
    refine Pow2 (by omega) fun t8 => ?_
    refine Xor_int fun t9 => ?_
    refine ⟨mvs ++ [.int v tv], (b1, listP v1) :: (s1, sliceP .none (.int 24 t4) .none) :: (r, listP avs) :: ((p :: lawX C.L mo qu a.P ((mvs ++ [.int v tv]) ++ [_]) qvs (some (.int kind tk)) (some (.ref wa)) ci) ++ K), by simp; omega, by walk_at "rx ud", (fun b e => nomatch e), ?_⟩
    have im3 := ints_snoc im2 (Builtin.bitXor v (2 ^ ans.getD i 0)) t9
    refine W.weak (σ' := ⟨_, (p :: lawX C.L mo qu a.P ((mvs ++ [.int v tv]) ++ [.int (Builtin.bitXor v (2 ^ ans.getD i 0)) t9]) qvs (some (.int kind tk)) (some (.ref wa)) ci) ++ K, g⟩) ?_ rfl (List.Sublist.cons _ (List.Sublist.cons _ (List.Sublist.cons _ (List.Sublist.refl _)))) rfl
    refine Execs_nil ?_
    refine Execs_nil ?_
    exact h _ _ K _ _ im3 (by simp; omega) (by simp) (fun q hq => hq)
  · refine W.weak (σ' := ⟨_, (p :: lawX C.L mo qu a.P (mvs ++ [.int v tv]) qvs (some (.int kind tk)) (some (.ref wa)) ci) ++ K, g⟩) ?_ rfl (List.Sublist.cons _ (List.Sublist.cons _ (List.Sublist.refl _))) rfl
    refine Execs_nil ?_
    refine Execs_nil ?_
    exact h _ _ K _ _ im2 (by simp; omega) (by simp) (fun q hq => hq)
end
end
section
open PySem.Calls PyProof.V PySem.Spec PySem.SeqAt
open StrLaws
theorem WLoop.drop {C : Cx} {l : Loc} {D D' D'' : Led} {g : Array GenState} {target : PySem.Expr} {it : Value} {body orelse : List Stmt} {env : Env} {Q : Flow → AS → Prop} (h : WLoop C ⟨l, D', g⟩ target it body orelse env Q) (hd : D''.Sublist D) (p : D'.Perm D'') : WLoop C ⟨l, D, g⟩ target it body orelse env Q := fun s E H => h s E ((H.drop (σ' := ⟨l, D'', g⟩) rfl hd rfl).perm p)
section
variable {C : Cx} {mg mb : Str → Option Value} {a : LawA} {fa sa mo qu : Addr} {cd : Value} {k : Nat}
set_option maxHeartbeats 2000000 in
theorem law_turn (LH : LawH C mg mb a) (R : Room C.A (k + 3)) {g : Array GenState} (hg : AllBare g) {svs : List Value} {sns : List Int} (hl : C.h₀.IsList sa svs.toArray) (hv : IntsAre svs sns) (hsz : svs.length ≤ 1000) {j dn : Nat} (hj : j < 3) {tj td : Tok} (hd0 : 0 < dn) {p : Addr × (Obj → Prop)} {mvs qvs : List Value} {ns : List Int} (im : IntsAre mvs ns) (hdn : dn ≤ ns.length) (hnz : ns.length ≤ 100) (hqz : qvs.length ≤ 100)
    {ck cw ci : Option Value} {K : Led} {tx md ask : Option Value} {Q : Flow → AS → Prop}
    (h : ∀ mvs' ns' v K' ck cw tx md ask g', IntsAre mvs' ns' → dn ≤ ns'.length → ns'.length ≤ ns.length + 2 → (∀ q ∈ K, q ∈ K') → QM K' v → AllBare g' →
      Q .next ⟨lawLoc sa (some (.ref mo)) (some (.int dn td)) (some (.ref qu)) (some (.int j tj)) tx md ask none none, (p :: lawX C.L mo qu a.P mvs' (qvs ++ [v]) ck cw ci) ++ K', g'⟩) :
    W C ⟨lawLoc sa (some (.ref mo)) (some (.int dn td)) (some (.ref qu)) (some (.int j tj)) tx md ask none none, (p :: lawX C.L mo qu a.P mvs qvs ck cw ci) ++ K, g⟩ (execs (lawQ 0 :: lawQ 1 :: (bodyOf (lawS 3)).drop 2) (lawEnv C.L fa cd)) Q := by
  refine Execs_cons ?_
  refine turn_question LH R hl hv hsz hj fun kind ws wvs wa tk tt K1 hk hwl hw3 iw hwa hsub => ?_
  refine turn_keep LH R hg hk hwl hw3 iw hqz hwa fun v K2 g2 hg2 hsub2 hqm => ?_
  refine turn_made LH R hl hv hsz hk hwl iw hd0 im hdn hnz (hsub2 _ hwa) fun mvs' ns' K3 md ask im' h1 h2 hsub3 => ?_
  exact h mvs' ns' v K3 _ _ _ md ask g2 im' h1 h2 (fun q hq => hsub3 _ (hsub2 _ (hsub _ hq))) (hqm.to hsub3) hg2
set_option maxHeartbeats 2000000 in
theorem law_loop1 {target iter : PySem.Expr} {body orelse : List Stmt} {pos : Pos} (hs : lawS 3 = .For target iter body orelse pos) (LH : LawH C mg mb a) (R : Room C.A (k + 3)) {svs : List Value} {sns : List Int} (hl : C.h₀.IsList sa svs.toArray) (hv : IntsAre svs sns) (hsz : svs.length ≤ 1000) {dn : Nat} {td : Tok} (hd0 : 0 < dn) {I : Addr} {ci : Option Value} {Q : Flow → AS → Prop}
    (h : ∀ mvs' ns' qvs' K' ck cw kv tx md ask g', IntsAre mvs' ns' → ns'.length ≤ 100 → (∀ v ∈ qvs', QM K' v) → qvs'.length ≤ 100 → AllBare g' →
      Q .next ⟨lawLoc sa (some (.ref mo)) (some (.int dn td)) (some (.ref qu)) kv tx md ask none none, lawX C.L mo qu a.P mvs' qvs' ck cw ci ++ K', g'⟩) :
    ∀ (n j : Nat) (g : Array GenState) (mvs qvs : List Value) (ns : List Int) (ck cw : Option Value) (K : Led) (kv tx md ask : Option Value), j + n = 3 → AllBare g → IntsAre mvs ns → dn ≤ ns.length → ns.length + 2 * n ≤ 100 → qvs.length ≤ j → (∀ v ∈ qvs, QM K v) →
      WLoop C ⟨lawLoc sa (some (.ref mo)) (some (.int dn td)) (some (.ref qu)) kv tx md ask none none, ((I, rangeIterP j n 1) :: lawX C.L mo qu a.P mvs qvs ck cw ci) ++ K, g⟩ target (.ref I) body orelse (lawEnv C.L fa cd) Q := by
  cases hs
  intro n
  induction n with
  | zero =>
    intro j g mvs qvs ns ck cw K kv tx md ask hj hg im hdn hnz hqz hq
    refine WLoop.step (Next_range_end (left := ((0 : Nat) : Int)) R.handled (by omega) (List.Mem.head _) DelD.here ?_)
    dsimp only
    exact Execs_nil (h mvs ns qvs K ck cw kv tx md ask g im (by omega) hq (by omega) hg)
  | succ n ih =>
    intro j g mvs qvs ns ck cw K kv tx md ask hj hg im hdn hnz hqz hq
    refine WLoop.step (Next_range (left := ((n + 1 : Nat) : Int)) (by omega) UpdD.here fun tk => ?_)
    have e : (((n + 1 : Nat) : Int) - 1) = (n : Int) := by omega
    rw [e]
    dsimp only
    refine let_plain ?_
    refine Assign_target ?_
    refine Store_local (by walk_at "rx u") ?_
    change W C ⟨lawLoc sa (some (.ref mo)) (some (.int dn td)) (some (.ref qu)) (some (.int j tk)) tx md ask none none, ((I, rangeIterP (j + 1 : Nat) n 1) :: lawX C.L mo qu a.P mvs qvs ck cw ci) ++ K, g⟩ (execs (lawQ 0 :: lawQ 1 :: (bodyOf (lawS 3)).drop 2) (lawEnv C.L fa cd)) _
    refine law_turn LH R hg hl hv hsz (by omega) hd0 im hdn (by omega) (by omega) fun mvs' ns' v K' ck cw tx md ask g' im' h1 h2 hsub hqm hg' => ?_
    exact ih (j + 1) g' mvs' (qvs ++ [v]) ns' ck cw K' _ tx md ask (by omega) hg' im' h1 (by omega) (by simp; omega) fun x hx => by
      rcases List.mem_append.mp hx with hx | hx
      · exact (hq x hx).to hsub
      · cases List.mem_singleton.mp hx; exact hqm
set_option maxHeartbeats 2000000 in
theorem law_loop2 {target iter : PySem.Expr} {body orelse : List Stmt} {pos : Pos} (hs : lawS 5 = .For target iter body orelse pos) (LH : LawH C mg mb a) (R : Room C.A (k + 3)) {g : Array GenState} {I sh : Addr} {mvs us qvs : List Value} {ns : List Int} (im : IntsAre mvs ns) (hnz : ns.length ≤ 100) (hu : Paired StrIs us (ns.map modeSigns)) {K : Led} (hq : ∀ v ∈ qvs, QM K v) (hqz : qvs.length ≤ 100) {d kv tx md ask : Option Value} {Q : Flow → AS → Prop}
    (h : ∀ told D', (a.P, tabP) ∈ D' → Q .next ⟨lawLoc sa (some (.ref mo)) d (some (.ref qu)) kv tx md ask (some (.ref sh)) told, D', g⟩) :
    ∀ (n i : Nat) (ck cw ci told : Option Value), i + n = qvs.length →
      WLoop C ⟨lawLoc sa (some (.ref mo)) d (some (.ref qu)) kv tx md ask (some (.ref sh)) told, ((I, listIterP qu i) :: (sh, listP us) :: lawX C.L mo qu a.P mvs qvs ck cw ci) ++ K, g⟩ target (.ref I) body orelse (lawEnv C.L fa cd) Q := by
  cases hs
  intro n
  induction n with
  | zero =>
    intro i ck cw ci told hi
    refine WLoop.step (Next_list_end (its := qvs) R.handled (fun s H => (H.list (by walk_at "rx m")).isList) (List.getElem?_eq_none (by omega)) (List.Mem.head _) DelD.here ?_)
    dsimp only
    exact Execs_nil (h _ _ (by walk_at "rx m"))
  | succ n ih =>
    intro i ck cw ci told hi
    have hil : i < qvs.length := by omega
    obtain ⟨t, wa, ia, tk, wvs, ivs, its, kind, wl, e, h1, h2, h3, h4, h5, h6, h7, h8, h9, h10⟩ := hq qvs[i] (List.getElem_mem _)
    refine WLoop.step (Next_list (its := qvs) (fun s H => (H.list (by walk_at "rx m")).isList) (List.getElem?_eq_getElem hil) UpdD.here ?_)
    rw [e]
    dsimp only
    refine let_list (List.Mem.head _) ?_
    change W C ⟨_, ((I, listIterP qu (i + 1)) :: (sh, listP us) :: lawX C.L mo qu a.P mvs qvs ck cw ci) ++ K, g⟩ (assign _ _ _) _
    refine Assign_trip R.handled (a := .int kind tk) (b := .ref wa) (c := .ref ia) (List.mem_append_right _ h1) ?_
    refine Assign_target ?_
    refine Store_cell (c := C.L + 1) (by rfl) (by walk_at "rx ud") ?_
    refine Assign_target ?_
    refine Store_cell (c := C.L + 2) (by rfl) (by walk_at "rx ud") ?_
    refine Assign_target ?_
    refine Store_cell (c := C.L + 3) (by rfl) (by walk_at "rx ud") ?_
    change W C ⟨lawLoc sa (some (.ref mo)) d (some (.ref qu)) kv tx md ask (some (.ref sh)) told, ((I, listIterP qu (i + 1)) :: (sh, listP us) :: lawX C.L mo qu a.P mvs qvs (some (.int kind tk)) (some (.ref wa)) (some (.ref ia))) ++ K, g⟩ (execs (lawT 0 :: lawT 1 :: []) (lawEnv C.L fa cd)) _
    refine Execs_cons ?_
    refine told_stmt (k := k + 2) (sh := sh) (ia := ia) (us := us) (ivs := ivs) (css := ns.map modeSigns) (its := its) LH R ?_ ?_ hu (by simp; omega) ?_ ?_ (List.mem_append_right _ h6) ?_ h8 h9 ?_
    · walk_at "rx m"
    · walk_at "rx m"
    · intro cs hcs
      obtain ⟨m, _, rfl⟩ := List.mem_map.mp hcs
      rw [modeSigns_len]; decide
    · walk_at "rx m"
    · exact paired_imp (fun _ _ x => x.to fun q hq => List.mem_append_right _ hq) h7
    intro r
    refine ⟨_, by walk_at "rx u", ?_⟩
    have eq : (ns.map modeSigns).map (takesV its) = ns.map (holdsV kind wl) := by
      rw [List.map_map]
      exact List.map_congr_left fun m _ => h10 m
    rw [eq]
    refine Execs_cons ?_
    change W C _ (exec (Stmt.If (Expr.Compare _ [_] [lawC6] _) _ _ _) _) _
    refine If_ ?_
    refine Test_cmp ?_
    refine Name_local (by walk_at "rx m") ?_
    refine holds_listcomp (k := k + 2) (mo := mo) (wa := wa) (vs := mvs) (wvs := wvs) (ns := ns) (ws := wl) (kind := kind) (tk := tk) LH R ?_ ?_ im (by omega) ?_ ?_ (List.Mem.tail _ (List.mem_append_right _ h2)) h3 h4 h5 ?_
    · walk_at "rx m"
    · walk_at "rx m"
    · walk_at "rx m"
    · walk_at "rx m"
    intro r2
    refine Ne_bools (bs := ns.map (holdsV kind wl)) (List.Mem.tail _ (List.Mem.head _)) (List.Mem.head _) (by have := R.units; omega) ⟨_, rfl, ?_⟩
    refine ite_f ?_
    refine W.weak (σ' := ⟨_, ((I, listIterP qu (i + 1)) :: (sh, listP us) :: lawX C.L mo qu a.P mvs qvs (some (.int kind tk)) (some (.ref wa)) (some (.ref ia))) ++ K, g⟩) ?_ rfl (List.Sublist.cons _ (List.Sublist.cons _ (List.Sublist.refl _))) rfl
    refine Execs_nil ?_
    refine Execs_nil ?_
    exact ih (i + 1) _ _ _ _ (by omega)
end
end
section
open PySem.Calls PyProof.V PySem.Spec PySem.SeqAt
open StrLaws
section
variable {C : Cx} {mg mb : Str → Option Value} {a : LawA} {fa sa : Addr} {cd : Value} {k : Nat}
set_option maxHeartbeats 2000000 in
theorem law_body (LH : LawH C mg mb a) (R : Room C.A (k + 3)) {g : Array GenState} (hg : AllBare g) {svs : List Value} {sns : List Int} (hl : C.h₀.IsList sa svs.toArray) (hv : IntsAre svs sns) (hsz : svs.length ≤ 1000) :
    W C ⟨lawLoc sa none none none none none none none none none, [(C.L + 1, cellP none), (C.L + 2, cellP none), (C.L + 3, cellP none), (a.P, tabP)], g⟩ (execs (bodyAt 36) (lawEnv C.L fa cd)) fun f σ' => f = .ret (.bool true) ∧ AllBare σ'.g ∧ (a.P, tabP) ∈ σ'.D := by
  change W C _ (execs (_ :: _ :: _ :: _ :: lawS 4 :: _ :: _ :: []) _) _
  refine Execs_cons ?_
  refine Assign_Name ?_
  refine BinOp_ ?_
  refine modes_comp R.handled hl (by walk_at "rx m") hv hsz fun ma mvs0 ns0 D1 im0 hz0 => ?_
  refine List_disp ?_
  refine Args_cons ?_
  refine Const_int fun t1 => ?_
  refine Args_cons ?_
  refine Const_int fun t2 => ?_
  refine Args_nil ⟨show (2 : Nat) ≤ sizeLine from by decide, fun la => ?_⟩
  have hml := im0.length
  refine Add_lists (List.Mem.tail _ (List.Mem.head _)) (List.Mem.head _) (by simp; omega) fun mo => ?_
  have im : IntsAre (mvs0 ++ [.int 35309 t1, .int 17407 t2]) (ns0 ++ [35309, 17407]) := by
    have := ints_snoc (ints_snoc im0 35309 t1) 17407 t2
    simpa using this
  have hmz : (ns0 ++ [(35309 : Int), 17407]).length = ns0.length + 2 := by simp
  generalize mvs0 ++ [Value.int 35309 t1, .int 17407 t2] = mvs at im
  generalize ns0 ++ [(35309 : Int), 17407] = ns at im hmz
  have hmvs := im.length
  refine Store_local (by walk_at "rx u") ?_
  refine W.weak (σ' := ⟨_, (mo, listP mvs) :: [(C.L + 1, cellP none), (C.L + 2, cellP none), (C.L + 3, cellP none), (a.P, tabP)], g⟩) ?_ rfl (List.Sublist.cons_cons _ (List.Sublist.cons _ (List.Sublist.cons _ (List.sublist_append_right D1 _)))) rfl
  refine Execs_cons ?_
  refine Assign_Name ?_
  refine Call_bi LH.H.G LH.H.hln LH.H.hlb ?_
  refine Args_cons ?_
  refine Name_local (by walk_at "rx m") ?_
  refine Args_nil ?_
  refine Len_L (.inr (by walk_at "rx m")) (by omega) fun td => ?_
  rw [hmvs]
  refine Store_local (by walk_at "rx u") ?_
  refine Execs_cons ?_
  refine Assign_Name ?_
  refine List_disp ?_
  refine Args_nil ⟨show (0 : Nat) ≤ sizeLine from by decide, fun qu => ?_⟩
  refine Store_local (by walk_at "rx u") ?_
  refine Execs_cons ?_
  refine For_ ?_
  refine Call_ty LH.H.G LH.H.hr LH.H.hrb ?_
  refine Args_cons ?_
  refine Const_int fun t3 => ?_
  refine Args_nil ?_
  refine Range1 fun r => ?_
  refine Iter_range (a := 0) (b := 3) (c := 1) (fun s H => H.obj (by walk_at "rx m")) (by rfl) fun I => ?_
  refine WLoop.drop (D'' := (I, rangeIterP 0 (Builtin.Range.rangeSize 0 3 1) 1) :: (qu, listP []) :: (mo, listP mvs) :: [(C.L + 1, cellP none), (C.L + 2, cellP none), (C.L + 3, cellP none), (a.P, tabP)]) (D' := ((I, rangeIterP 0 (3 : Nat) 1) :: lawX C.L mo qu a.P mvs [] none none none) ++ []) ?_ (List.Sublist.cons_cons _ (List.sublist_cons_self _ _)) (List.Perm.cons _ (List.Perm.swap ..))
  refine law_loop1 (k := k) (by rfl) LH R hl hv hsz (dn := ns.length) (td := td) (by omega) (fun mvs' ns' qvs' K' ck cw kv tx md ask g' im' hn' hq' hqz' hg' => ?_) 3 0 g mvs [] ns none none [] none none none none rfl hg im (Nat.le_refl _) (by omega) (by simp) (by simp)
  dsimp only
  refine Execs_cons ?_
  refine shown_stmt (k := k + 1) (mo := mo) (vs := mvs') (ns := ns') LH R ?_ ?_ im' (by omega) ?_
  · walk_at "rx m"
  · walk_at "rx m"
  intro sh us hus
  refine ⟨_, by walk_at "rx u", ?_⟩
  refine Execs_cons ?_
  refine For_ ?_
  refine Name_local (by walk_at "rx m") ?_
  refine Iter_list (its := qvs') (fun s H => (H.list (by walk_at "rx m")).isList) fun J => ?_
  change WLoop C ⟨_, ((J, listIterP qu 0) :: (sh, listP us) :: lawX C.L mo qu a.P mvs' qvs' ck cw none) ++ K', g'⟩ _ _ _ _ _ _
  refine law_loop2 (k := k) (by rfl) LH R im' hn' hus hq' hqz' (fun told D' hD => ?_) qvs'.length 0 ck cw none none (by simp)
  dsimp only
  refine Execs_cons ?_
  refine Return_ ?_
  refine Const_bool ?_
  exact ⟨rfl, hg', hD⟩
end
end
section
open PySem.Calls PyProof.V PySem.Spec PySem.SeqAt
open StrLaws PySem.W PyProof.Rows.KTD
theorem my_post {M : Model} {A : Around} {cd : Code} {s s₁ : Shared} {cw : ClaimW} {cl : Str → Option Addr} {mean : ExcName → Option Value} {args : List WData} {tabs : List (Addr × Addr)} (hT : TabsAt tabs s₁.heap) (hr : ∀ x, cw.raises args x = false) (hp : cw.post args (.bool true) args = true)
    (h : codeAny M A cd (fun r s' => r = .ok (.ret (.bool true)) ∧ (∀ b o, (ghostOf s₁.heap tabs).get? b = some o → s'.heap.get? b = some o) ∧ s'.os = s₁.os ∧ AllBare s'.gens ∧ GrownAll tabs s'.heap) s) : codeAny M A cd (GoodWG cw cl mean args s₁) s :=
  codeAny_mono h fun r s' ⟨e, hk, hos, hg, hgr⟩ => by
    subst e
    have old : ∀ b o, s₁.heap.get? b = some o → s'.heap.get? b = some o ∨ ∃ q ∈ tabs, q.2 = b ∧ o = tabObj #[] ∧ ∃ ps, s'.heap.get? q.2 = some (tabObj ps) := fun b o e => by
      by_cases hb : b ∈ tabs.map (·.2)
      · obtain ⟨q, hq, rfl⟩ := List.mem_map.mp hb
        exact .inr ⟨q, hq, rfl, Option.some.inj (e.symm.trans (hT q hq).2), hgr.get q hq⟩
      · exact .inl (hk b o (ghost_ne e hb))
    refine ⟨.inl ⟨.bool true, .bool true, [], rfl, hr, .bool true, hp, fun _ => ⟨List.nodup_nil, fun _ h => nomatch h⟩⟩, ⟨fun b o e => ?_, fun b o e => ?_⟩, hos, hg⟩
    · rcases old b o e with h1 | ⟨q, hq, rfl, rfl, ps, h2⟩
      · exact .inl h1
      · refine .inr (.inl ⟨CodeHd.tab (hT q hq).1 e |>.isCodeTable, rfl, #[], ps, rfl, ?_⟩)
        rw [h2, Array.empty_append]
    · rcases old b o e with h1 | ⟨q, hq, rfl, rfl, ps, h2⟩
      · exact ⟨o, h1⟩
      · exact ⟨_, h2⟩
section
variable {h : Heap} {tabs : List (Addr × Addr)} {mg mb : Str → Option Value}
theorem codeRec_ghost {cd : Value} {q : Str} (hT : TabsAt tabs h) (x : h.CodeRec cd q) : (ghostOf h tabs).CodeRec cd q := by
  obtain ⟨c, o, vs, t, e, g, hd, hv⟩ := x
  refine ⟨c, o, vs, t, e, ghost_get hT g (fun k => ?_), hd, hv⟩
  subst k
  have : vs = #[] := (Data.fields.inj hd).symm
  subst this
  simp at hv
theorem FnAt.ghost {name : Str} {params : Arguments} {body : List Stmt} {scope : Scope} {a : Addr} (hT : TabsAt tabs h) (f : FnAt h mg name params body scope a) : FnAt (ghostOf h tabs) mg name params body scope a :=
  ⟨f.glob, let ⟨o, pm, cd, doc, h1, h2, h3⟩ := f.obj; ⟨o, pm, cd, doc, ghost_get hT h1 (fun k => by subst k; cases h2), h2, codeRec_ghost hT h3⟩⟩
def posAt (n : Nat) : Pos := match stmtAt n with | .FunctionDef _ _ _ _ _ _ _ _ _ p => p | _ => ⟨0, 0, 0, 0⟩
abbrev recAt (n : Nat) (x : Str) : DefRec := ⟨x, paramsAt n, bodyAt n, scopeAt n, posAt n⟩
theorem fn_of {p : Program} {loose : List Str} {mean : ExcName → Option Value} (T : Top p loose mean mg mb h) (hT : TabsAt tabs h) {n : Nat} {x : Str} (e : (recsOf p).find? (fun d => d.name == x) = some (recAt n x)) : ∃ a, Def h mg n x a := by
  obtain ⟨a, o, pm, cd, doc, h1, h2, h3, h4⟩ := T.fn _ (List.mem_of_find?_eq_some e)
  exact ⟨a, h1, o, pm, cd, doc, h2, h3, h4⟩
theorem builtins_ghost {p : Program} {loose : List Str} {mean : ExcName → Option Value} (T : Top p loose mean mg mb h) (hT : TabsAt tabs h) {c P : Addr} (hP : (c, P) ∈ tabs) : (ghostOf h tabs).BuiltinsAt mg P := by
  obtain ⟨bm, ob, a1, a2, a3, a4, a5, a6⟩ := T.bmain
  refine ⟨bm, ob, a1, a2, ?_, ?_, ghost_get hT a3 (fun q => by rw [q] at a4; cases a4), a4, a5, a6⟩
  · rintro rfl
    obtain ⟨o, es, ep, e, hd, _⟩ := T.g
    rw [a3] at e; cases e
    rw [a6] at hd; cases hd
  · rintro rfl
    have := (hT _ hP).2
    rw [show h.get? bm = some ob from a3] at this
    cases this
    cases a4
-- the table of signs, read off the written heap
def rowIn (K : Frag) : Value → Int × Nat → Bool
  | .ref r, bc => match K.lookup r with
    | some o => o.cls == .type "tuple" && (match o.data with | .seq its _ => (match its.toList with | [.int i _, .str s _] => i == bc.1 && s == ⟨#[bc.2]⟩ | _ => false) | _ => false)
    | none => false
  | _, _ => false
def allIn {β : Type} (R : Value → β → Bool) : List Value → List β → Bool
  | [], [] => true
  | v :: vs, b :: bs => R v b && allIn R vs bs
  | _, _ => false
def tupIn {β : Type} (K : Frag) (R : Value → β → Bool) : Value → List β → Bool
  | .ref r, bs => match K.lookup r with
    | some o => o.cls == .type "tuple" && (match o.data with | .seq its _ => allIn R its.toList bs | _ => false)
    | none => false
  | _, _ => false
theorem all_of {β : Type} {R : Value → β → Bool} {R' : Value → β → Prop} (hR : ∀ v b, R v b = true → R' v b) : ∀ {vs : List Value} {bs : List β}, allIn R vs bs = true → Paired R' vs bs
  | [], [], _ => .nil
  | v :: vs, b :: bs, e => by
    simp only [allIn, Bool.and_eq_true] at e
    exact .cons (hR _ _ e.1) (all_of hR e.2)
  | [], _ :: _, e => by simp [allIn] at e
  | _ :: _, [], e => by simp [allIn] at e
theorem tup_of {β : Type} {K : Frag} {R : Value → β → Bool} {R' : Value → β → Prop} (X : K.In h) (hR : ∀ v b, R v b = true → R' v b) {v : Value} {bs : List β} (e : tupIn K R v bs = true) : ∃ t vs, v = .ref t ∧ h.IsTuple t vs.toArray ∧ Paired R' vs bs := by
  cases v with
  | ref r =>
    simp only [tupIn] at e
    split at e
    · rename_i o ho
      rw [Bool.and_eq_true] at e
      obtain ⟨e1, e2⟩ := e
      split at e2
      · rename_i its n hd
        exact ⟨r, its.toList, rfl, ⟨o, X _ _ ho, eq_of_beq e1, n, by rw [hd]⟩, all_of hR e2⟩
      · cases e2
    · cases e
  | _ => simp [tupIn] at e
theorem row_of {K : Frag} (X : K.In h) {v : Value} {bc : Int × Nat} (e : rowIn K v bc = true) : RowAt h v bc := by
  cases v with
  | ref r =>
    simp only [rowIn] at e
    split at e
    · rename_i o ho
      rw [Bool.and_eq_true] at e
      obtain ⟨e1, e2⟩ := e
      split at e2
      · rename_i its n hd
        split at e2
        · rename_i i t1 s t2 hl
          rw [Bool.and_eq_true] at e2
          obtain rfl := eq_of_beq e2.1
          obtain rfl := eq_of_beq e2.2
          refine ⟨r, t1, t2, rfl, o, X _ _ ho, eq_of_beq e1, n, ?_⟩
          rw [hd]
          congr 1
          exact Array.toList_inj.mp hl
        · cases e2
      · cases e2
    · cases e
  | _ => simp [rowIn] at e
theorem file_of {K : Frag} (X : K.In h) {v : Value} (e : tupIn K (tupIn K (rowIn K)) v ftabs = true) : FileTab h v :=
  tup_of X (fun _ _ e => tup_of X (fun _ _ e => row_of X e) e) e
end
end
section
open PySem.Calls PyProof.V PySem.Spec PySem.SeqAt
open StrLaws PySem.W PyProof.Rows.KTD
def escD : List (Int × PyData) := [(40, .str (T [92, 40])), (41, .str (T [92, 41])), (91, .str (T [92, 91])), (93, .str (T [92, 93])), (123, .str (T [92, 123])), (125, .str (T [92, 125])), (63, .str (T [92, 63])), (42, .str (T [92, 42])), (43, .str (T [92, 43])), (45, .str (T [92, 45])), (124, .str (T [92, 124])), (94, .str (T [92, 94])), (36, .str (T [92, 36])), (92, .str (T [92, 92])), (46, .str (T [92, 46])), (38, .str (T [92, 38])), (126, .str (T [92, 126])), (35, .str (T [92, 35])), (32, .str (T [92, 32])), (9, .str (T [92, 9])), (10, .str (T [92, 10])), (13, .str (T [92, 13])), (11, .str (T [92, 11])), (12, .str (T [92, 12]))]
def pat83 : Obj := { cls := .type "re.Pattern", dict := none, data := .fields #[.str (Str.ofString "([&~|])") 368, .int 32 403, .int 1 0, .none, .none, .ref 82, .int 0 0], slots := #[] }
def code82 : Obj := { cls := .type "tuple", dict := none, data := .seq #[.int 14 0, .int 14 0, .int 4 0, .int 1 0, .int 1 0, .int 9 0, .int 0 0, .int 64 0, .int 0 0, .int 1342177280 0, .int 0 0, .int 0 0, .int 0 0, .int 0 0, .int 0 0, .int 17 0, .int 0 0, .int 13 0, .int 11 0, .int 9 0, .int 0 0, .int 64 0, .int 0 0, .int 1342177280 0, .int 0 0, .int 0 0, .int 0 0, .int 0 0, .int 0 0, .int 17 0, .int 1 0, .int 1 0] 0, slots := #[] }
theorem bb_isinstance : bootBuiltins (S "isinstance") = some (.builtin "isinstance") := by kernel_rfl
theorem bb_str : bootBuiltins (S "str") = some (.type "str") := by kernel_rfl
theorem bb_len : bootBuiltins (S "len") = some (.builtin "len") := by kernel_rfl
theorem bb_range : bootBuiltins (S "range") = some (.type "range") := by kernel_rfl
theorem bb_enumerate : bootBuiltins (S "enumerate") = some (.type "enumerate") := by kernel_rfl
theorem bb_sum : bootBuiltins (S "sum") = some (.builtin "sum") := by kernel_rfl
theorem bb_abs : bootBuiltins (S "abs") = some (.builtin "abs") := by kernel_rfl
theorem esc45 : lookup (.int 45) (escD.map fun p => (PyData.int p.1, p.2)) = some (.str (T [92, 45])) := by rw [lookup_keyed]; kernel_rfl
theorem escNo : ∀ c ∈ [112, 99, 100, 98, 108, 115, 114, 119, 120, 83, 116, 84], lookup (.int (c : Nat)) (escD.map fun p => (PyData.int p.1, p.2)) = none := by
  intro c hc
  rw [lookup_keyed]
  simp only [List.mem_cons, List.not_mem_nil, or_false] at hc
  rcases hc with rfl | rfl | rfl | rfl | rfl | rfl | rfl | rfl | rfl | rfl | rfl | rfl <;> decide +kernel
theorem lawH_of {p : Program} {loose : List Str} {mean : ExcName → Option Value} {mg mb : Str → Option Value} {h : Heap} {K : Frag} {prog : Program} {w : World} {A : Around} {d : Drawn} {os : OsState} {L : Addr} (T : Top p loose mean mg mb h) (X : K.In h) (hT : TabsAt [(101, 97)] h) (hK : noTabs K = true)
    (r2 : (recsOf p).find? (fun d => d.name == S "S_IFMT") = some (recAt 2 (S "S_IFMT")))
    (r23 : (recsOf p).find? (fun d => d.name == S "filemode") = some (recAt 23 (S "filemode")))
    (r27 : (recsOf p).find? (fun d => d.name == S "escape") = some (recAt 27 (S "escape")))
    (r29 : (recsOf p).find? (fun d => d.name == S "_translate") = some (recAt 29 (S "_translate")))
    (r31 : (recsOf p).find? (fun d => d.name == S "_law_question") = some (recAt 31 (S "_law_question")))
    (r32 : (recsOf p).find? (fun d => d.name == S "_law_holds") = some (recAt 32 (S "_law_holds")))
    (r33 : (recsOf p).find? (fun d => d.name == S "_law_made") = some (recAt 33 (S "_law_made")))
    (r34 : (recsOf p).find? (fun d => d.name == S "_law_spans") = some (recAt 34 (S "_law_spans")))
    (r35 : (recsOf p).find? (fun d => d.name == S "_law_takes") = some (recAt 35 (S "_law_takes")))
    (ht : tabIn K (S "_translate") = some (101, 97))
    (n_isinstance : nsIn K mainGlobals (S "isinstance") = some none)
    (n_str : nsIn K mainGlobals (S "str") = some none)
    (n_len : nsIn K mainGlobals (S "len") = some none)
    (n_range : nsIn K mainGlobals (S "range") = some none)
    (n_enumerate : nsIn K mainGlobals (S "enumerate") = some none)
    (n_sum : nsIn K mainGlobals (S "sum") = some none)
    (n_abs : nsIn K mainGlobals (S "abs") = some none)
    (hp : nsIn K mainGlobals (S "_twin_re_1") = some (some (.ref 83))) (o83 : List.lookup 83 K = some pat83) (o82 : List.lookup 82 K = some code82)
    (he : nsIn K mainGlobals (S "_special_chars_map") = some (some (.ref 85))) (hek : keyedLook (fun a => List.lookup a K) 85 escD = true)
    (hf : nsIn K mainGlobals (S "_filemode_table") = some (some (.ref 71))) (hft : tupIn K (tupIn K (rowIn K)) (.ref 71) ftabs = true) :
    ∃ a : LawA, a.P = 97 ∧ LawH ⟨prog, w, A, ghostOf h [(101, 97)], d, os, L⟩ mg mb a := by
  have G := ghost_top hT T
  have X' := ghost_K hT X hK
  obtain ⟨ia, f2⟩ := fn_of T hT r2
  obtain ⟨fa, f23⟩ := fn_of T hT r23
  obtain ⟨ea, f27⟩ := fn_of T hT r27
  obtain ⟨ta, f29⟩ := fn_of T hT r29
  obtain ⟨qa, f31⟩ := fn_of T hT r31
  obtain ⟨ha, f32⟩ := fn_of T hT r32
  obtain ⟨ma, f33⟩ := fn_of T hT r33
  obtain ⟨sa, f34⟩ := fn_of T hT r34
  obtain ⟨ka, f35⟩ := fn_of T hT r35
  have m_isinstance := mg_none_of X T.g n_isinstance
  have v_isinstance : mb (S "isinstance") = some (.builtin "isinstance") := (T.builtins (S "isinstance") (by decide +kernel)).trans bb_isinstance
  have m_str := mg_none_of X T.g n_str
  have v_str : mb (S "str") = some (.type "str") := (T.builtins (S "str") (by decide +kernel)).trans bb_str
  have m_len := mg_none_of X T.g n_len
  have v_len : mb (S "len") = some (.builtin "len") := (T.builtins (S "len") (by decide +kernel)).trans bb_len
  have m_range := mg_none_of X T.g n_range
  have v_range : mb (S "range") = some (.type "range") := (T.builtins (S "range") (by decide +kernel)).trans bb_range
  have m_enumerate := mg_none_of X T.g n_enumerate
  have v_enumerate : mb (S "enumerate") = some (.type "enumerate") := (T.builtins (S "enumerate") (by decide +kernel)).trans bb_enumerate
  have m_sum := mg_none_of X T.g n_sum
  have v_sum : mb (S "sum") = some (.builtin "sum") := (T.builtins (S "sum") (by decide +kernel)).trans bb_sum
  have m_abs := mg_none_of X T.g n_abs
  have v_abs : mb (S "abs") = some (.builtin "abs") := (T.builtins (S "abs") (by decide +kernel)).trans bb_abs
  have hcd := ghost_code hT
  have FT : FnCd (ghostOf h [(101, 97)]) mg (S "_translate") (paramsAt 29) (bodyAt 29) (scopeAt 29) ta 101 := by
    have f := FnAt.ghost hT f29
    obtain ⟨o, pm, cd, doc, h1, h2, h3⟩ := f.obj
    have hc : cd = .ref 101 := law_code (fd := docDef (S "_translate") (paramsAt 29) (bodyAt 29) (scopeAt 29) pm cd doc) X' G.g ht f.glob h1 h2
    subst hc
    exact ⟨f.glob, o, pm, doc, h1, h2, h3⟩
  refine ⟨⟨ea, 101, 97, ta, qa, ha, ma, sa, ka, fa, ia, .ref 71⟩, rfl, ?_⟩
  exact {
    H := {
      G := ⟨G.g, G.b, G.nolimit⟩, hd := hcd.1, hb := builtins_ghost T hT (List.Mem.head _)
      pat := ⟨83, 82, mg_of X T.g hp, .inl ⟨_, X' _ _ o83, rfl⟩, .inl ⟨_, X' _ _ o82, rfl⟩⟩
      F := FnAt.ghost hT f27, hin := m_isinstance, hib := v_isinstance, hsn := m_str, hsb := v_str
      ET := ⟨85, _, mg_of X T.g he, keyed_of_look (get := fun a => List.lookup a K) (fun a o e => X' a o e) hek prog w, esc45, escNo⟩
      hln := m_len, hlb := v_len, hr := m_range, hrb := v_range }
    FT := FT, Fq := FnAt.ghost hT f31, Fh := FnAt.ghost hT f32, Fm := FnAt.ghost hT f33, Fs := FnAt.ghost hT f34, Fk := FnAt.ghost hT f35, Ff := FnAt.ghost hT f23, Fi := FnAt.ghost hT f2
    hen := m_enumerate, heb := v_enumerate, hT := mg_of X T.g hf, hF := file_of X' hft, hun := m_sum, hub := v_sum, han := m_abs, hab := v_abs }
theorem get_above {h : Heap} {L : Addr} (hz : h.objs.size ≤ L) : h.get? L = none := by
  cases q : h.get? L with
  | none => rfl
  | some o => exact absurd (Heap.lt_size q) (Nat.not_lt.mpr hz)
theorem law_end {prog : Program} {w : World} {h h₁ : Heap} {L fa sa : Addr} {cdv : Value} {m mg mb : Str → Option Value} {d : Drawn} {os : OsState} {gens : Array GenState} {tk : Nat} {a : LawA} {o1 o2 o3 : Obj} {svs : List Value} {sns : List Int} {E : Value → Shared → Prop} (hP : a.P = 97)
    (LH : LawH ⟨prog, w, callerA.deeper (lawEnv L fa cdv), ghostOf h [(101, 97)], d, os, L⟩ mg mb a) (F : Fr (ghostOf h [(101, 97)]) L h₁ m) (hm : ∀ p ∈ lawLoc sa none none none none none none none none none, m p.1 = p.2)
    (N : News (ghostOf h [(101, 97)]) L h₁ [(L + 1 + 1 + 1, o3), (L + 1 + 1, o2), (L + 1, o1), (97, tabObj #[])]) (e3 : o3.data = .cell none) (e2 : o2.data = .cell none) (e1 : o1.data = .cell none)
    (hl : (ghostOf h [(101, 97)]).IsList sa svs.toArray) (hv : IntsAre svs sns) (hsz : svs.length ≤ 1000) (hlt : 97 < L) (hg : gens = #[]) :
    wpAny (model prog w) (callerA.deeper (lawEnv L fa cdv)) (execs (bodyAt 36) (lawEnv L fa cdv)) (fun f s' => (Except.ok (Flow.ret (match f with | .ret v => v | _ => .none)) : Result) = .ok (.ret (.bool true)) ∧ (∀ b o, (ghostOf h [(101, 97)]).get? b = some o → s'.heap.get? b = some o) ∧ s'.os = os ∧ AllBare s'.gens ∧ GrownAll [(101, 97)] s'.heap) E ⟨h₁, gens, d, tk, os⟩ := by
  have R : Room (callerA.deeper (lawEnv L fa cdv)) (0 + 3) := ⟨rfl, by show 1 + claimMargin + 1 + (0 + 3) ≤ 900; decide, by show 4 + 3 + 4 * (0 + 3) ≤ 9000; decide⟩
  let C : Cx := ⟨prog, w, callerA.deeper (lawEnv L fa cdv), ghostOf h [(101, 97)], d, os, L⟩
  have st : St C ⟨lawLoc sa none none none none none none none none none, [(C.L + 1, cellP none), (C.L + 2, cellP none), (C.L + 3, cellP none), (a.P, tabP)], gens⟩ ⟨h₁, gens, d, tk, os⟩ := by
    have n1 := N (L + 1, o1) (.tail _ (.tail _ (.head _)))
    have n2 := N (L + 1 + 1, o2) (.tail _ (.head _))
    have n3 := N (L + 1 + 1 + 1, o3) (.head _)
    have n4 := N (97, tabObj #[]) (.tail _ (.tail _ (.tail _ (.head _))))
    rw [hP]
    refine ⟨F.keep, fun _ => ⟨⟨m, F.ns, hm⟩, get_above F.above, fun p hp => ?_⟩, fun p hp => ?_, ?_, ?_, rfl, rfl, rfl⟩
    · simp only [List.mem_cons, List.not_mem_nil, or_false] at hp
      rcases hp with rfl | rfl | rfl | rfl
      · exact n1.2.1
      · exact n2.2.1
      · exact n3.2.1
      · exact n4.2.1
    · simp only [List.mem_cons, List.not_mem_nil, or_false] at hp
      rcases hp with rfl | rfl | rfl | rfl
      · exact ⟨⟨o1, n1.1, e1⟩, n1.2.2⟩
      · exact ⟨⟨o2, n2.1, e2⟩, n2.2.2⟩
      · exact ⟨⟨o3, n3.1, e3⟩, n3.2.2⟩
      · exact ⟨⟨_, n4.1, #[], rfl, trivial⟩, n4.2.2⟩
    · simp only [List.map_cons, List.map_nil]; decide +kernel
    · have nd : ([L + 1, L + 2, L + 3, 97] : List Nat).Nodup := by
        have hlt' : (97 : Nat) < L := hlt
        simp; omega
      exact nd
  refine wpAny_mono (law_body (C := C) (k := 0) LH R (hg ▸ AllBare.empty) hl hv hsz _ _ st) (fun f s' ⟨σ', ⟨hf, hb, hD⟩, H'⟩ => ?_) fun _ _ x => x
  subst hf
  obtain ⟨o, ho, ps, rfl, _⟩ := H'.obj hD
  refine ⟨rfl, H'.keep, H'.os, by rw [H'.gens]; exact hb, ⟨ps, ?_⟩, trivial⟩
  rw [← hP]; exact ho
end
def law_holds.tw10066255993394160697 : Nat := 0
def law_holds.tw10081048551022923161 : Nat := 0
def law_holds.tw10464970025933370903 : Nat := 0
def law_holds.tw10474239627674656903 : Nat := 0
def law_holds.tw10517884838353768630 : Nat := 0
def law_holds.tw10552509778166143488 : Nat := 0
def law_holds.tw10631309896841495679 : Nat := 0
def law_holds.tw10666838702981294998 : Nat := 0
def law_holds.tw10711907288533919621 : Nat := 0
def law_holds.tw10759252047192593159 : Nat := 0
def law_holds.tw10760786417123187660 : Nat := 0
def law_holds.tw1093475967769593596 : Nat := 0
def law_holds.tw10961380513631206989 : Nat := 0
def law_holds.tw10977292720490818631 : Nat := 0
def law_holds.tw11035736429134971678 : Nat := 0
def law_holds.tw11045266318088707172 : Nat := 0
def law_holds.tw11132132948228677541 : Nat := 0
def law_holds.tw11221916490862392697 : Nat := 0
def law_holds.tw11238740934622328607 : Nat := 0
def law_holds.tw11480511166538702089 : Nat := 0
def law_holds.tw11538431980117950300 : Nat := 0
def law_holds.tw11730620522315640749 : Nat := 0
def law_holds.tw11816788088774008835 : Nat := 0
def law_holds.tw1183052893076311146 : Nat := 0
def law_holds.tw11910916672405971120 : Nat := 0
def law_holds.tw12072936009387092751 : Nat := 0
def law_holds.tw12149949888443968114 : Nat := 0
def law_holds.tw12182001436905324107 : Nat := 0
def law_holds.tw12468324816939072237 : Nat := 0
def law_holds.tw12477665478744089076 : Nat := 0
def law_holds.tw12531015068165869805 : Nat := 0
def law_holds.tw12621464357669006138 : Nat := 0
def law_holds.tw12729012957177994772 : Nat := 0
def law_holds.tw12922566413587433716 : Nat := 0
def law_holds.tw12934381313532508013 : Nat := 0
def law_holds.tw12992775152957713975 : Nat := 0
def law_holds.tw13106914122193855163 : Nat := 0
def law_holds.tw13148939825468851479 : Nat := 0
def law_holds.tw13192447934173447862 : Nat := 0
def law_holds.tw13219954317372495822 : Nat := 0
def law_holds.tw13238209836106448476 : Nat := 0
def law_holds.tw13252087789031623672 : Nat := 0
def law_holds.tw1328027517519326065 : Nat := 0
def law_holds.tw13632839531081733715 : Nat := 0
def law_holds.tw13663970839873825210 : Nat := 0
def law_holds.tw13664099112226749353 : Nat := 0
def law_holds.tw1372851571908831678 : Nat := 0
def law_holds.tw13826184558860749509 : Nat := 0
def law_holds.tw13830821094329471317 : Nat := 0
def law_holds.tw13955509668330486362 : Nat := 0
def law_holds.tw14070432457656509808 : Nat := 0
def law_holds.tw14123337147924762688 : Nat := 0
def law_holds.tw1418250637855958497 : Nat := 0
def law_holds.tw14253485833242374874 : Nat := 0
def law_holds.tw14297389214122869311 : Nat := 0
def law_holds.tw144811892892421368 : Nat := 0
def law_holds.tw14624059054412397468 : Nat := 0
def law_holds.tw14653847871065809964 : Nat := 0
def law_holds.tw14714878648222672660 : Nat := 0
def law_holds.tw14819721224986428775 : Nat := 0
def law_holds.tw14839896132714837226 : Nat := 0
def law_holds.tw14879994602903523375 : Nat := 0
def law_holds.tw14908346458305595081 : Nat := 0
def law_holds.tw14962599971903290626 : Nat := 0
def law_holds.tw15085235532819897520 : Nat := 0
def law_holds.tw1519939143604242085 : Nat := 0
def law_holds.tw15202851946946486794 : Nat := 0
def law_holds.tw15326971368325747022 : Nat := 0
def law_holds.tw15357343828452774496 : Nat := 0
def law_holds.tw15397615198854807832 : Nat := 0
def law_holds.tw15488333232115291823 : Nat := 0
def law_holds.tw15599262883404931368 : Nat := 0
def law_holds.tw15649217462954992230 : Nat := 0
def law_holds.tw15651763844529646057 : Nat := 0
def law_holds.tw1568095302476894088 : Nat := 0
def law_holds.tw15699511558858368326 : Nat := 0
def law_holds.tw158146626114683355 : Nat := 0
def law_holds.tw15905784082522993098 : Nat := 0
def law_holds.tw15933184996287878491 : Nat := 0
def law_holds.tw1595472166899416501 : Nat := 0
def law_holds.tw16025901673391685199 : Nat := 0
def law_holds.tw16093426271346116009 : Nat := 0
def law_holds.tw16114138851865595470 : Nat := 0
def law_holds.tw16195733095578957261 : Nat := 0
def law_holds.tw16214838377427187373 : Nat := 0
def law_holds.tw16268624998699634462 : Nat := 0
def law_holds.tw16328592368374974449 : Nat := 0
def law_holds.tw16366412306400572024 : Nat := 0
def law_holds.tw16380560863103863206 : Nat := 0
def law_holds.tw16596030277646162978 : Nat := 0
def law_holds.tw16628303093538123811 : Nat := 0
def law_holds.tw16736790456949354391 : Nat := 0
def law_holds.tw16876228119478585917 : Nat := 0
def law_holds.tw16889581481025300827 : Nat := 0
def law_holds.tw16969935394543735128 : Nat := 0
def law_holds.tw17050489078579711241 : Nat := 0
def law_holds.tw17120464469960562049 : Nat := 0
def law_holds.tw17140591567285108753 : Nat := 0
def law_holds.tw17142235646940570582 : Nat := 0
def law_holds.tw17146770345053999094 : Nat := 0
def law_holds.tw17197849079084062918 : Nat := 0
def law_holds.tw17321551863446825184 : Nat := 0
def law_holds.tw17393554444032094090 : Nat := 0
def law_holds.tw17448221761051061915 : Nat := 0
def law_holds.tw17485781654137924156 : Nat := 0
def law_holds.tw17517104844626449007 : Nat := 0
def law_holds.tw17619084796303874692 : Nat := 0
def law_holds.tw17643849697500574817 : Nat := 0
def law_holds.tw17677005762689286623 : Nat := 0
def law_holds.tw17744222539233274701 : Nat := 0
def law_holds.tw17828149525616040143 : Nat := 0
def law_holds.tw17972534051478417551 : Nat := 0
def law_holds.tw18040287388920261133 : Nat := 0
def law_holds.tw18051841527005085405 : Nat := 0
def law_holds.tw18091304096229069908 : Nat := 0
def law_holds.tw18184703976895795627 : Nat := 0
def law_holds.tw18203631474795805345 : Nat := 0
def law_holds.tw18212781926178186750 : Nat := 0
def law_holds.tw18227353256901495007 : Nat := 0
def law_holds.tw18399113291866430672 : Nat := 0
def law_holds.tw1946556063461959514 : Nat := 0
def law_holds.tw2116754499226031826 : Nat := 0
def law_holds.tw2149028489089413326 : Nat := 0
def law_holds.tw2171694079573201830 : Nat := 0
def law_holds.tw2185597733444501771 : Nat := 0
def law_holds.tw227813480365024278 : Nat := 0
def law_holds.tw2674884152165356830 : Nat := 0
def law_holds.tw2760033638787999976 : Nat := 0
def law_holds.tw2771293479843833182 : Nat := 0
def law_holds.tw2800329151890858326 : Nat := 0
def law_holds.tw2808012923915613873 : Nat := 0
def law_holds.tw2823549217653133504 : Nat := 0
def law_holds.tw2884806721525905932 : Nat := 0
def law_holds.tw2956450642950598582 : Nat := 0
def law_holds.tw2969290802776700993 : Nat := 0
def law_holds.tw3004998504600336512 : Nat := 0
def law_holds.tw3008408795028370856 : Nat := 0
def law_holds.tw3066307457768171069 : Nat := 0
def law_holds.tw312883883600517582 : Nat := 0
def law_holds.tw3154553423197300753 : Nat := 0
def law_holds.tw3289296411676376172 : Nat := 0
def law_holds.tw3296775360189033496 : Nat := 0
def law_holds.tw3451507824860836721 : Nat := 0
def law_holds.tw3497865473917339763 : Nat := 0
def law_holds.tw3624866886758163917 : Nat := 0
def law_holds.tw3696128571384796146 : Nat := 0
def law_holds.tw3858716869000610902 : Nat := 0
def law_holds.tw3878324173972356849 : Nat := 0
def law_holds.tw3992611559970166553 : Nat := 0
def law_holds.tw4024272041359338342 : Nat := 0
def law_holds.tw40833431410670236 : Nat := 0
def law_holds.tw4314826171896353117 : Nat := 0
def law_holds.tw4387483869693626674 : Nat := 0
def law_holds.tw4430491901620508757 : Nat := 0
def law_holds.tw4494797965139942289 : Nat := 0
def law_holds.tw4527568306424772518 : Nat := 0
def law_holds.tw4566057466805147947 : Nat := 0
def law_holds.tw4591386234472203172 : Nat := 0
def law_holds.tw4617953143650399103 : Nat := 0
def law_holds.tw4700007187158578142 : Nat := 0
def law_holds.tw4713120652740273349 : Nat := 0
def law_holds.tw4714032265985398618 : Nat := 0
def law_holds.tw4921304669070654123 : Nat := 0
def law_holds.tw4982638858822194333 : Nat := 0
def law_holds.tw4984910430415498060 : Nat := 0
def law_holds.tw5166549287150655760 : Nat := 0
def law_holds.tw5235483328595646501 : Nat := 0
def law_holds.tw5261058174657852742 : Nat := 0
def law_holds.tw5333145640285574870 : Nat := 0
def law_holds.tw5421882302095197606 : Nat := 0
def law_holds.tw5563967173313676324 : Nat := 0
def law_holds.tw572190771862465193 : Nat := 0
def law_holds.tw5731394974948939158 : Nat := 0
def law_holds.tw5735866176598555038 : Nat := 0
def law_holds.tw5758294683656786065 : Nat := 0
def law_holds.tw5766115131927186065 : Nat := 0
def law_holds.tw5774302477033234586 : Nat := 0
def law_holds.tw5784037967475927752 : Nat := 0
def law_holds.tw5859248823956416371 : Nat := 0
def law_holds.tw5880450570837620186 : Nat := 0
def law_holds.tw5896450407186690967 : Nat := 0
def law_holds.tw6007205530005660722 : Nat := 0
def law_holds.tw6078007695611323488 : Nat := 0
def law_holds.tw6130694341193851555 : Nat := 0
def law_holds.tw6191784959759098154 : Nat := 0
def law_holds.tw6309726673086311076 : Nat := 0
def law_holds.tw6323102089044631705 : Nat := 0
def law_holds.tw6475502062130939894 : Nat := 0
def law_holds.tw6489251277100470861 : Nat := 0
def law_holds.tw668319819488655443 : Nat := 0
def law_holds.tw678503390453619157 : Nat := 0
def law_holds.tw6895071404737054086 : Nat := 0
def law_holds.tw6947861977061135785 : Nat := 0
def law_holds.tw7016071406254401256 : Nat := 0
def law_holds.tw715517268256057560 : Nat := 0
def law_holds.tw7191370374373350529 : Nat := 0
def law_holds.tw7231804884356754263 : Nat := 0
def law_holds.tw745347527103016472 : Nat := 0
def law_holds.tw7461637448089290344 : Nat := 0
def law_holds.tw7604081271906726154 : Nat := 0
def law_holds.tw7614348902840414879 : Nat := 0
def law_holds.tw7691878027623071687 : Nat := 0
def law_holds.tw7757282241759561619 : Nat := 0
def law_holds.tw777125497554442047 : Nat := 0
def law_holds.tw7932351344282043566 : Nat := 0
def law_holds.tw8095669280102918605 : Nat := 0
def law_holds.tw8216957270006959536 : Nat := 0
def law_holds.tw8274441136972931286 : Nat := 0
def law_holds.tw8364950809627746002 : Nat := 0
def law_holds.tw8385064178888781576 : Nat := 0
def law_holds.tw8403089060117371253 : Nat := 0
def law_holds.tw8485538500345721013 : Nat := 0
def law_holds.tw8598833484115330514 : Nat := 0
def law_holds.tw8807507875602303238 : Nat := 0
def law_holds.tw8823103619164520985 : Nat := 0
def law_holds.tw8867872108171305891 : Nat := 0
def law_holds.tw8971866903386581224 : Nat := 0
def law_holds.tw9047419494104889133 : Nat := 0
def law_holds.tw9057200892057022071 : Nat := 0
def law_holds.tw9206760207784250257 : Nat := 0
def law_holds.tw926979093880480425 : Nat := 0
def law_holds.tw9288943714681174403 : Nat := 0
def law_holds.tw9336842589683160291 : Nat := 0
def law_holds.tw9402369477143473865 : Nat := 0
def law_holds.tw9414561810033397107 : Nat := 0
def law_holds.tw9483534650151111423 : Nat := 0
def law_holds.tw9490531142757486891 : Nat := 0
def law_holds.tw9517285944545851137 : Nat := 0
def law_holds.tw9689665474418746009 : Nat := 0
def law_holds.tw9784674571504653876 : Nat := 0
def law_holds.tw9814496250032485509 : Nat := 0
def law_holds.tw9852443331342662525 : Nat := 0
def law_holds.tw9853435235262769964 : Nat := 0
def law_holds.tw987826417006040225 : Nat := 0
def law_holds.tw9886728983312078823 : Nat := 0
def law_holds.tw9921051803252406189 : Nat := 0
def law_holds.tw993350711530647874 : Nat := 0
def law_holds.tw9939934106822416655 : Nat := 0
def law_holds.tw9971007916692963459 : Nat := 0
end RxA
set_option Elab.async true
set_option maxHeartbeats 8000000 in
theorem RxA.law_holds : PySem.Challenge.rw_rx0096_01.Holds := by
  (w_on; o_law; k_head; (case hw => w_witness2))
  k_fill
  intro w s₀ s₁ mg mb G Y fa o pm cd doc dV kV ho hdd hcd hD hmg hg args vals as hpre hlay hrd hwl hlo
  have KX := km_in_of Y
  km_tabs Y
  refine Ground.open G ?_
  intro T B D TE TW
  try (refine guard_noD D (by decide +kernel) ?_; clear D)
  km_lay T hmg ho hdd cd
  clear hmg
  wrow_args hpre hlay hrd hwl hlo
  all_goals (first | refine callC_kw (enter_call ?_) | refine enter_call ?_)
  w_top on
  refine RxA.my_post hT9 (fun _ => rfl) ?_ ?_
  · exact postW_of (by wrow_shape) (by wtm_val) (by first | rfl | decide | simp)
  w_call any ho hdd hcd hD T F
  rename_i ns hs hlay0 hLL hr0 hl2 as1 as2 la lvs as3 hL ra w1 r0 hI hr hc1 hc2 h₁ tk₁ o3 o2 o1 e3 e2 e1 N0 X0
  have F' := ghost_fr hT9 F
  have N' := ghost_news hT9 F N0
  have hl' := ghost_list hT9 hL
  have l0 := ghost_lt hT9 F (97, tabObj #[]) (List.Mem.head _)
  obtain ⟨a, hP, LH⟩ := RxA.lawH_of (prog := PySem.Challenge.rw_rx0096_01.row.prog) (w := w) (A := callerA.deeper (RxA.lawEnv s₁.heap.objs.size fa cd)) (d := s₁.drawn) (os := s₁.os) (L := s₁.heap.objs.size) T KX hT9 (by kernel_rfl)
    (by kernel_rfl) (by kernel_rfl) (by kernel_rfl) (by kernel_rfl) (by kernel_rfl) (by kernel_rfl) (by kernel_rfl) (by kernel_rfl) (by kernel_rfl) (by kernel_rfl)
    (by kernel_rfl) (by kernel_rfl) (by kernel_rfl) (by kernel_rfl) (by kernel_rfl) (by kernel_rfl) (by kernel_rfl) (by kernel_rfl) (by kernel_rfl) (by kernel_rfl) (by kernel_rfl) (by kernel_rfl) (by kernel_rfl) (by kernel_rfl)
  refine RxA.law_end (sa := la) hP LH F' ?_ N' (e3.trans (by kernel_rfl)) (e2.trans (by kernel_rfl)) (e1.trans (by kernel_rfl)) hl' hI ?_ l0 hg
  · intro p hp
    simp only [List.mem_cons, List.not_mem_nil, or_false] at hp
    rcases hp with rfl | rfl | rfl | rfl | rfl | rfl | rfl | rfl | rfl | rfl <;> kernel_rfl
  · rw [hI.length]; omega
theorem PySem.Challenge.cw_rx0096_01_holds : PySem.Challenge.rw_rx0096_01.Holds :=
  RxA.law_holds
#print axioms PySem.Challenge.cw_rx0096_01_holds
