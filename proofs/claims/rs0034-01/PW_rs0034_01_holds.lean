import PyProof.Rows.All
import Wide.All
import OpenK.AllK
import Wide.FinOn
import PySem.Challenge.RW_rs0034_01
set_option Elab.async false

section
open PySem PySem.W PyProof.Rows
namespace Mine
set_option maxRecDepth 100000
set_option maxHeartbeats 8000000
open_top hd for PySem.Challenge.rw_rs0034_01
end Mine
end

section
open PySem PySem.W PySem.Calls PyProof.Rows
set_option maxRecDepth 100000
namespace Mine

abbrev Led := List (Addr × Obj)
noncomputable abbrev KK (w : World) : Frag := hd.heap_39 w.params
abbrev MM (w : World) : Model := model PySem.Challenge.rw_rs0034_01.row.prog w

/-- what stands at the top, at any heap of the call -/
structure Gl (w : World) (h : Heap) : Prop where
  K : (KK w).In h
  T : ∃ p loose mg mb, TopRead p loose mg mb h
theorem Gl.keeps {w : World} {h h' : Heap} (G : Gl w h) (hk : h.StaysIn h') : Gl w h' :=
  ⟨G.K.keeps hk, let ⟨p, l, mg, mb, T⟩ := G.T; ⟨p, l, mg, mb, T.keeps hk⟩⟩

/-- room for n more frames -/
structure OkA (A : Around) (n : Nat) : Prop where
  handled : A.handled = none
  depth : A.depth + n < recursionLimit
  units : A.units + 6 * n < cLine
theorem OkA.mono {A : Around} {n m : Nat} (h : OkA A n) (hm : m ≤ n) : OkA A m :=
  ⟨h.handled, by have := h.depth; omega, by have := h.units; omega⟩
theorem OkA.deeper {A : Around} {n : Nat} (h : OkA A (n + 1)) (env : Env) : OkA (A.deeper env) n :=
  ⟨h.handled, by have := h.depth; show A.depth + 1 + n < _; omega, by have := h.units; show A.units + 3 + 6 * n < _; omega⟩

def NewIn (h h' : Heap) (objs : Led) : Prop := (∀ p ∈ objs, h'.get? p.1 = some p.2 ∧ h.get? p.1 = none) ∧ (objs.map (·.1)).Nodup
theorem NewIn.nil {h h' : Heap} : NewIn h h' [] := ⟨fun _ hp => (nomatch hp), List.nodup_nil⟩
theorem NewIn.one {h h' : Heap} {a : Addr} {o : Obj} (h1 : h'.get? a = some o) (h2 : h.get? a = none) : NewIn h h' [(a, o)] :=
  ⟨fun p hp => (by
    rcases List.mem_cons.mp hp with rfl | hp
    · exact ⟨h1, h2⟩
    · cases hp), by simp⟩

theorem Keeps.refl (s : Shared) : Keeps s s := ⟨s.heap, s.toks, rfl, fun _ _ e => e⟩
theorem Keeps.trans {s s' s'' : Shared} (a : Keeps s s') (b : Keeps s' s'') : Keeps s s'' := by
  obtain ⟨h, tk, rfl, k⟩ := a
  obtain ⟨h', tk', rfl, k'⟩ := b
  exact ⟨h', tk', rfl, fun b o e => k' b o (k b o e)⟩
theorem Keeps.stays {s s' : Shared} (a : Keeps s s') : s.heap.StaysIn s'.heap := by
  obtain ⟨h, tk, rfl, k⟩ := a
  exact k
theorem Keeps.toks (s : Shared) (t : Nat) : Keeps s { s with toks := t } := ⟨s.heap, t, rfl, fun _ _ e => e⟩

/-- a tree that only grows the heap, and what it hands back -/
def Gives (w : World) (A : Around) (t : Sem Value) (s : Shared) (P : Value → Led → Prop) : Prop :=
  wpAny (MM w) A t (fun v s' => ∃ objs, P v objs ∧ NewIn s.heap s'.heap objs ∧ Keeps s s') (fun _ _ => False) s

def upd (m : Str → Option Value) (x : Str) (v : Value) : Str → Option Value := fun y => if y = x then some v else m y
theorem upd_same (m : Str → Option Value) (x : Str) (v : Value) : upd m x v x = some v := by simp [upd]
theorem upd_ne (m : Str → Option Value) {x y : Str} (v : Value) (h : y ≠ x) : upd m x v y = m y := by simp [upd, h]

/-- an activation: its names, its cells, what it has made -/
structure Act (s₀ : Shared) (env : Env) (m cm : Str → Option Value) (led : Led) (s : Shared) : Prop where
  same : ∃ h tk, s = { s₀ with heap := h, toks := tk }
  ns : s.heap.Ns env.locals m
  keep : s₀.heap.StaysIn s.heap
  fresh : s₀.heap.objs.size ≤ env.locals
  cell : ∀ n c, env.cells.lookup n = some c → s.heap.IsCell c (cm n)
  apart : env.cells.Pairwise fun x y => x.2 ≠ y.2
  off : ∀ n c, env.cells.lookup n = some c → c ≠ env.locals
  news : ∀ p ∈ led, s.heap.get? p.1 = some p.2 ∧ s₀.heap.get? p.1 = none ∧ p.1 ≠ env.locals ∧ ∀ n c, env.cells.lookup n = some c → c ≠ p.1
  nodup : (led.map (·.1)).Nodup

section
variable {s₀ s s' : Shared} {env : Env} {m cm : Str → Option Value} {news objs : Led}

theorem get_none_of_le {h : Heap} {a : Addr} (ha : h.objs.size ≤ a) : h.get? a = none := by
  cases e : h.get? a with
  | none => rfl
  | some o => exact absurd (Heap.lt_size e) (Nat.not_lt.mpr ha)

theorem Act.keeps (X : Act s₀ env m cm news s) : Keeps s₀ s := by
  obtain ⟨h, tk, rfl⟩ := X.same
  exact ⟨h, tk, rfl, X.keep⟩

theorem Act.grow (X : Act s₀ env m cm news s) (k : Keeps s s') (n : NewIn s.heap s'.heap objs) : Act s₀ env m cm (objs ++ news) s' := by
  obtain ⟨h, tk, rfl⟩ := X.same
  obtain ⟨h', tk', rfl, st⟩ := k
  refine ⟨⟨h', tk', rfl⟩, X.ns.keeps st, fun b o e => st b o (X.keep b o e), X.fresh, fun n c e => (X.cell n c e).keeps st, X.apart, X.off, fun p hp => ?_, ?_⟩
  rotate_left
  · rw [List.map_append]
    refine List.nodup_append.mpr ⟨n.2, X.nodup, fun a ha b hb e => ?_⟩
    obtain ⟨p, hp, rfl⟩ := List.mem_map.mp ha
    obtain ⟨q, hq, rfl⟩ := List.mem_map.mp hb
    have h1 := (n.1 p hp).2
    rw [e, (X.news q hq).1] at h1
    cases h1
  rcases List.mem_append.mp hp with hp | hp
  · have q := n.1 p hp
    refine ⟨q.1, ?_, ?_, ?_⟩
    · cases e : s₀.heap.get? p.1 with
      | none => rfl
      | some o => rw [X.keep _ _ e] at q; cases q.2
    · intro e
      obtain ⟨o, _, _, ho, _⟩ := X.ns
      rw [e] at q
      rw [ho] at q; cases q.2
    · intro n c hc e
      obtain ⟨o, ho, _⟩ := X.cell n c hc
      rw [e] at ho; rw [ho] at q; cases q.2
  · have q := X.news p hp
    exact ⟨st _ _ q.1, q.2⟩

theorem Act.grow0 (X : Act s₀ env m cm news s) (k : Keeps s s') : Act s₀ env m cm news s' := X.grow (objs := []) k NewIn.nil
theorem Act.tok (X : Act s₀ env m cm news s) (t : Nat) : Act s₀ env m cm news { s with toks := t } := X.grow0 (Keeps.toks s t)
theorem Act.get {a : Addr} {o : Obj} (X : Act s₀ env m cm news s) (h : (a, o) ∈ news) : s.heap.get? a = some o := (X.news _ h).1
theorem Act.sub {news' : Led} (X : Act s₀ env m cm news s) (h : news'.Sublist news) : Act s₀ env m cm news' s :=
  ⟨X.same, X.ns, X.keep, X.fresh, X.cell, X.apart, X.off, fun p hp => X.news p (h.subset hp), X.nodup.sublist (h.map _)⟩
theorem Act.perm {news' : Led} (X : Act s₀ env m cm news s) (h : news.Perm news') : Act s₀ env m cm news' s :=
  ⟨X.same, X.ns, X.keep, X.fresh, X.cell, X.apart, X.off, fun p hp => X.news p (h.mem_iff.mpr hp), (h.map _).nodup_iff.mp X.nodup⟩
theorem Act.gl {w : World} (X : Act s₀ env m cm news s) (G : Gl w s₀.heap) : Gl w s.heap := G.keeps X.keep

/-- the objects of the ledger are new since the call began -/
theorem Act.newIn (X : Act s₀ env m cm news s) : NewIn s₀.heap s.heap news := ⟨fun p hp => ⟨(X.news p hp).1, (X.news p hp).2.1⟩, X.nodup⟩
end

section
variable {w : World} {A : Around} {E : Value → Shared → Prop} {s₀ s : Shared} {env : Env} {m cm : Str → Option Value} {news objs : Led}

theorem Gives.use {t : Sem Value} {P : Value → Led → Prop} {Q : Value → Shared → Prop} (g : Gives w A t s P) (X : Act s₀ env m cm news s)
    (h : ∀ v objs s', P v objs → Act s₀ env m cm (objs ++ news) s' → Q v s') : wpAny (MM w) A t Q E s :=
  wpAny_mono g (fun v s' h' => let ⟨objs, hp, hn, hk⟩ := h'; h v objs s' hp (X.grow hk hn)) fun _ _ f => f.elim

theorem Gives.mono {t : Sem Value} {P P' : Value → Led → Prop} (g : Gives w A t s P) (h : ∀ v o, P v o → P' v o) : Gives w A t s P' :=
  wpAny_mono g (fun v s' h' => let ⟨objs, hp, hn, hk⟩ := h'; ⟨objs, h _ _ hp, hn, hk⟩) fun _ _ f => f

theorem Gives.use0 {t : Sem Value} {P : Value → Prop} {Q : Value → Shared → Prop} (g : Gives w A t s (fun v objs => objs = [] ∧ P v)) (X : Act s₀ env m cm news s)
    (h : ∀ v s', P v → Act s₀ env m cm news s' → Q v s') : wpAny (MM w) A t Q E s :=
  g.use X fun v objs s' hp X' => by
    obtain ⟨rfl, hp⟩ := hp
    exact h v s' hp X'

/-- names -/
theorem n_loc {x : Str} {pos : Pos} {v : Value} {Q : Value → Shared → Prop} (X : Act s₀ env m cm news s) (hl : env.kindOf x = some .local) (hv : m x = some v) (h : Q v s)
    (hk : env.scope.kind = .function := by rfl) (hd : (x == ("__debug__" : Str)) = false := by decide) : wpAny (MM w) A (eval (.Name x pos) env) Q E s :=
  wpAny_Name (wpAny_loadName_local hk hl X.ns hv h) hd
theorem n_cell {x : Str} {pos : Pos} {c : Addr} {v : Value} {Q : Value → Shared → Prop} (X : Act s₀ env m cm news s) (hl : env.kindOf x = some .cell) (hc : env.cells.lookup x = some c) (hv : cm x = some v) (h : Q v s)
    (hk : env.scope.kind = .function := by rfl) (hd : (x == ("__debug__" : Str)) = false := by decide) : wpAny (MM w) A (eval (.Name x pos) env) Q E s :=
  wpAny_Name (wpAny_loadName_cell hk hl hc (hv ▸ X.cell x c hc) h) hd
theorem n_glob {x : Str} {pos : Pos} {v : Value} {Q : Value → Shared → Prop} (X : Act s₀ env m cm news s) (G : Gl w s₀.heap) (hl : env.kindOf x = some .globalImplicit)
    (e : nsIn (KK w) mainGlobals x = some (some v)) (h : Q v s) (hg : env.globals = mainGlobals := by rfl)
    (hk : env.scope.kind = .function := by rfl) (hd : (x == ("__debug__" : Str)) = false := by decide) : wpAny (MM w) A (eval (.Name x pos) env) Q E s := by
  obtain ⟨p, l, mg, mb, T⟩ := G.T
  exact Name_function_global hk hl (loadGlobal_global (env := env) (by rw [hg]; exact T.g.keeps X.keep) (mg_of G.K T.g e) h) hd
theorem n_blt {x : Str} {pos : Pos} {v : Value} {Q : Value → Shared → Prop} (X : Act s₀ env m cm news s) (G : Gl w s₀.heap) (hl : env.kindOf x = some .globalImplicit)
    (e : nsIn (KK w) mainGlobals x = some none) (hv : bootBuiltins x = some v) (h : Q v s) (hn : x ≠ "__name__" := by decide) (hg : env.globals = mainGlobals := by rfl) (hb : env.builtins = builtinsNs := by rfl)
    (hk : env.scope.kind = .function := by rfl) (hd : (x == ("__debug__" : Str)) = false := by decide) : wpAny (MM w) A (eval (.Name x pos) env) Q E s := by
  obtain ⟨p, l, mg, mb, T⟩ := G.T
  exact Name_function_global hk hl (loadGlobal_builtin (env := env) (by rw [hg]; exact T.g.keeps X.keep) (mg_none_of G.K T.g e) (by rw [hb]; exact T.b.keeps X.keep) ((T.builtins x hn).trans hv) h) hd

/-- stores -/
theorem st_loc {x : Str} {v : Value} {Q : Unit → Shared → Prop} (X : Act s₀ env m cm news s) (hl : env.kindOf x = some .local)
    (h : ∀ s', Act s₀ env (upd m x v) cm news s' → Q () s') (hk : env.scope.kind = .function := by rfl) : wpAny (MM w) A (storeName env x v) Q E s := by
  refine wpAny_storeName_local hl X.ns (fun h' hn hs => h _ ?_) (by rw [hk]; rfl)
  obtain ⟨h₁, tk, rfl⟩ := X.same
  refine ⟨⟨h', _, rfl⟩, hn, fun b o e => hs.extBut b o (Nat.ne_of_lt (Nat.lt_of_lt_of_le (Heap.lt_size e) X.fresh)) (X.keep b o e), X.fresh, fun n c hc => (X.cell n c hc).sameBut hs (X.off n c hc), X.apart, X.off, fun p hp => ?_, X.nodup⟩
  have q := X.news p hp
  exact ⟨(hs.2 p.1 q.2.2.1).trans q.1, q.2⟩
theorem st_cell {x : Str} {c : Addr} {v : Value} {Q : Unit → Shared → Prop} (X : Act s₀ env m cm news s) (hl : env.kindOf x = some .cell) (hc : env.cells.lookup x = some c) (hcf : s₀.heap.objs.size ≤ c)
    (h : ∀ s', Act s₀ env m (upd cm x v) news s' → Q () s') (hk : env.scope.kind = .function := by rfl) : wpAny (MM w) A (storeName env x v) Q E s := by
  refine wpAny_storeName_cell hk hl hc (X.cell x c hc) (fun h' hn hs => h _ ?_)
  obtain ⟨h₁, tk, rfl⟩ := X.same
  refine ⟨⟨h', _, rfl⟩, X.ns.sameBut hs (Ne.symm (X.off x c hc)), fun b o e => hs.extBut b o (Nat.ne_of_lt (Nat.lt_of_lt_of_le (Heap.lt_size e) hcf)) (X.keep b o e), X.fresh, fun n c' hc' => ?_, X.apart, X.off, fun p hp => ?_, X.nodup⟩
  · by_cases hn' : n = x
    · subst hn'
      rw [hc] at hc'; cases hc'
      rw [upd_same]; exact hn
    · rw [upd_ne _ _ hn']
      exact (X.cell n c' hc').sameBut hs fun e => hn' (name_of_addr X.apart (mem_of_lookup hc') (e ▸ mem_of_lookup hc))
  · have q := X.news p hp
    exact ⟨(hs.2 p.1 (Ne.symm (q.2.2.2 x c hc))).trans q.1, q.2⟩
end
end Mine
end

section
open PySem PySem.W PySem.Calls PyProof.Rows
set_option maxRecDepth 100000
set_option linter.unusedVariables false
namespace Mine

def flv : Flow → Value
  | .ret v => v
  | _ => .none

def Ret (P : Value → Led → Prop) (s : Shared) (v : Value) (s' : Shared) : Prop := ∃ objs, P v objs ∧ NewIn s.heap s'.heap objs ∧ Keeps s s'

theorem Act.ret {s₀ s : Shared} {env : Env} {m cm : Str → Option Value} {news objs : Led} {P : Value → Led → Prop} {v : Value} (X : Act s₀ env m cm news s) (hp : P v objs) (hs : objs.Sublist news) :
    Ret P s₀ v s := ⟨objs, hp, ⟨fun p h => X.newIn.1 p (hs.subset h), X.nodup.sublist (hs.map _)⟩, X.keeps⟩

section
variable {w : World} {A : Around} {s : Shared}

theorem enter {n : Nat} {f : Addr} {vals : List Value} {oc : Value} {od : Option Addr} {osl : Array (Option Value)} {name qual : Str} {params : Arguments} {body : List Stmt} {scope : Scope} {dV kV doc pm cdv ct : Value} {an : Option Addr}
    {binds : List (Str × Value)} {P : Value → Led → Prop}
    (G : Gl w s.heap) (hA : OkA A (n + 1))
    (ho : (KK w).lookup f = some ⟨oc, od, .func (fnX name qual params body scope [] dV kV doc pm an cdv ct), osl⟩)
    (hcd : codeIn (KK w) cdv qual = true)
    (hbind : bindArgs (fnX name qual params body scope [] dV kV doc pm an cdv ct) ⟨vals, []⟩ = pure binds)
    (hloc : (binds.all fun x => decide (scope.names.lookup x.1 = some .local)) = true)
    (hcell : (scope.names.all fun x => x.2 != .cell) = true)
    (hco : scope.isCoroutine = false) (hgen : scope.isGenerator = false) (hk : scope.kind = .function)
    (h : ∀ A' s', OkA A' n → Act s (envX qual scope s.heap.objs.size f cdv []) (fun y => binds.reverse.lookup y) (fun _ => none) [] s' →
      wpAny (MM w) A' (execs body (envX qual scope s.heap.objs.size f cdv [])) (fun fl s'' => Ret P s (flv fl) s'') (fun _ _ => False) s') :
    Gives w A (call (.ref f) vals) s P := by
  obtain ⟨p, l, mg, mb, T⟩ := G.T
  refine wpAny_call (codeAny_call_def (fd := fnX name qual params body scope [] dV kV doc pm an cdv ct) (body := body) (binds := binds) (by have := hA.depth; omega) (G.K _ _ ho) rfl T.nolimit (codeRec_of G.K hcd) rfl
    (BindsTo.of_eq hbind) (fun x hx => by have := List.all_eq_true.mp hcell x hx; simpa using this) (locs hloc) (fun h₁ hn hst => ?_) hco hgen hk)
  refine wpAny_mono (h (A.deeper (envX qual scope s.heap.objs.size f cdv [])) { s with heap := h₁, toks := s.toks + binds.length } (hA.deeper _) ⟨⟨h₁, _, rfl⟩, hn, hst, Nat.le_refl _, (fun _ _ e => by cases e), List.Pairwise.nil, (fun _ _ e => by cases e), (fun _ hp => by cases hp), List.nodup_nil⟩)
    (fun fl s' hr => ?_) fun _ _ hf => hf.elim
  cases fl <;> exact hr

theorem enterC {n : Nat} {f : Addr} {vals : List Value} {oc : Value} {od : Option Addr} {osl : Array (Option Value)} {name qual : Str} {params : Arguments} {body : List Stmt} {scope : Scope} {dV kV doc pm cdv ct : Value} {an : Option Addr}
    {binds : List (Str × Value)} {P : Value → Led → Prop}
    (G : Gl w s.heap) (hA : OkA A (n + 1))
    (ho : (KK w).lookup f = some ⟨oc, od, .func (fnX name qual params body scope [] dV kV doc pm an cdv ct), osl⟩)
    (hcd : codeIn (KK w) cdv qual = true)
    (hbind : bindArgs (fnX name qual params body scope [] dV kV doc pm an cdv ct) ⟨vals, []⟩ = pure binds)
    (hkind : (binds.all fun y => scope.names.lookup y.1 == some .local || scope.names.lookup y.1 == some .cell) = true)
    (hco : scope.isCoroutine = false) (hgen : scope.isGenerator = false) (hk : scope.kind = .function)
    (h : ∀ A' s', OkA A' n → Act s (envX qual scope s.heap.objs.size f cdv (cellsFrom (s.heap.objs.size + 1) scope.names []))
        (bindL (fun x => scope.names.lookup x) binds fun _ => none) (bindC (fun x => scope.names.lookup x) binds fun _ => none) [] s' →
      wpAny (MM w) A' (execs body (envX qual scope s.heap.objs.size f cdv (cellsFrom (s.heap.objs.size + 1) scope.names []))) (fun fl s'' => Ret P s (flv fl) s'') (fun _ _ => False) s') :
    Gives w A (call (.ref f) vals) s P := by
  obtain ⟨p, l, mg, mb, T⟩ := G.T
  refine wpAny_call (codeAny_call_cells (fd := fnX name qual params body scope [] dV kV doc pm an cdv ct) (body := body) (binds := binds) (by have := hA.depth; omega) (G.K _ _ ho) rfl T.nolimit (codeRec_of G.K hcd) rfl
    hbind rfl (kindsX hkind _) (fun s₁ x => ?_) hco hgen hk)
  refine wpAny_mono (h (A.deeper (envX qual scope s.heap.objs.size f cdv (cellsFrom (s.heap.objs.size + 1) scope.names []))) s₁ (hA.deeper _)
    ⟨x.toInCall.same, x.toInCall.ns, x.toInCall.keep, x.toInCall.fresh, x.cell, x.apart, fun n c hc => Nat.ne_of_gt (x.above n c (mem_of_lookup hc)), (fun _ hp => nomatch hp), List.nodup_nil⟩)
    (fun fl s' hr => ?_) fun _ _ hf => hf.elim
  cases fl <;> exact hr
end
end Mine
end

section
open PySem PySem.W PySem.Calls PyProof.Rows
set_option maxRecDepth 100000
set_option linter.unusedVariables false
namespace Mine

def lst (vs : List Value) (n : Nat) : Obj := { cls := .type "list", data := .seq vs.toArray n }
theorem lst_is {h : Heap} {l : Addr} {vs : List Value} {n : Nat} (e : h.get? l = some (lst vs n)) : h.IsList l vs.toArray := ⟨_, e, rfl, n, rfl⟩

section
variable {M : Model} {A : Around} {E : Value → Shared → Prop} {s : Shared} {env : Env}

theorem x_assign {x : Str} {pos' : Pos} {value : PySem.Expr} {pos : Pos} {rest : List Stmt} {Q : Flow → Shared → Prop}
    (h : wpAny M A (eval value env) (fun v s₁ => wpAny M A (storeName env x v) (fun _ s₂ => wpAny M A (execs rest env) Q E s₂) E s₁) E s)
    (hs : swapsWith value (some (.Name x pos')) pos.line env = pure false := by rfl) :
    wpAny M A (execs (.Assign [.Name x pos'] value pos :: rest) env) Q E s := wpAny_execs_cons (wpAny_Assign_Name h hs)
theorem x_ret {e : PySem.Expr} {pos : Pos} {rest : List Stmt} {Q : Flow → Shared → Prop} (h : wpAny M A (eval e env) (fun v s' => Q (.ret v) s') E s) :
    wpAny M A (execs (.Return (some e) pos :: rest) env) Q E s := wpAny_execs_cons (wpAny_Return_some h)
theorem x_if {test : PySem.Expr} {body orelse : List Stmt} {pos : Pos} {rest : List Stmt} {Q : Flow → Shared → Prop}
    (h : wpAny M A (isTrue test env (eval test env)) (fun b s₂ =>
      (b = true → wpAny M A (execs body env) (fun f s' => match f with | .next => wpAny M A (execs rest env) Q E s' | f => Q f s') E s₂) ∧
      (b = false → wpAny M A (execs orelse env) (fun f s' => match f with | .next => wpAny M A (execs rest env) Q E s' | f => Q f s') E s₂)) E s) :
    wpAny M A (execs (.If test body orelse pos :: rest) env) Q E s :=
  wpAny_execs_cons (wpAny_If (wpAny_mono h (fun b s₂ h₂ => by cases b; exact h₂.2 rfl; exact h₂.1 rfl) fun _ _ e => e))
theorem x_nil {Q : Flow → Shared → Prop} (h : Q .next s) : wpAny M A (execs [] env) Q E s := wpAny_execs_nil h
theorem e_ifexp {test body orelse : PySem.Expr} {pos : Pos} {Q : Value → Shared → Prop}
    (h : wpAny M A (isTrue test env (eval test env)) (fun b s₁ => (b = true → wpAny M A (eval body env) Q E s₁) ∧ (b = false → wpAny M A (eval orelse env) Q E s₁)) E s) :
    wpAny M A (eval (.IfExp test body orelse pos) env) Q E s :=
  wpAny_IfExp (wpAny_mono h (fun b s₂ h₂ => by cases b; exact h₂.2 rfl; exact h₂.1 rfl) fun _ _ e => e)
end

section
variable {w : World} {A : Around} {E : Value → Shared → Prop} {s₀ s : Shared} {env : Env} {m cm : Str → Option Value} {news : Led}

theorem c_int {i : Int} {k : Nat} {pos : Pos} {Q : Value → Shared → Prop} (X : Act s₀ env m cm news s) (h : ∀ t s', Act s₀ env m cm news s' → Q (.int i t) s') :
    wpAny (MM w) A (eval (.Constant (.int i) k pos) env) Q E s := wpAny_Constant_int (h _ _ (X.tok _))
theorem c_str {x : Str} {k : Nat} {pos : Pos} {Q : Value → Shared → Prop} (X : Act s₀ env m cm news s) (h : ∀ t s', Act s₀ env m cm news s' → Q (.str x t) s') :
    wpAny (MM w) A (eval (.Constant (.str x) k pos) env) Q E s := wpAny_Constant_str (h _ _ (X.tok _))
section
variable {a b : Int} {t u : Tok} {Q : Value → Shared → Prop}
theorem i_add (X : Act s₀ env m cm news s) (h : ∀ t s', Act s₀ env m cm news s' → Q (.int (a + b) t) s') : wpAny (MM w) A (binaryOp .Add (.int a t) (.int b u)) Q E s := add_int (h _ _ (X.tok _))
theorem i_sub (X : Act s₀ env m cm news s) (h : ∀ t s', Act s₀ env m cm news s' → Q (.int (a - b) t) s') : wpAny (MM w) A (binaryOp .Sub (.int a t) (.int b u)) Q E s := sub_int (h _ _ (X.tok _))
theorem i_mul (X : Act s₀ env m cm news s) (hm : IntMulOk a b) (h : ∀ t s', Act s₀ env m cm news s' → Q (.int (a * b) t) s') : wpAny (MM w) A (binaryOp .Mult (.int a t) (.int b u)) Q E s := mul_int (h _ _ (X.tok _)) hm
theorem i_mulL (X : Act s₀ env m cm news s) (ha : a.natAbs < 2 ^ 64) (h : ∀ t s', Act s₀ env m cm news s' → Q (.int (a * b) t) s') : wpAny (MM w) A (binaryOp .Mult (.int a t) (.int b u)) Q E s := mul_int (h _ _ (X.tok _)) (IntMulOk.of_left (intBits_le ha))
theorem i_mod (X : Act s₀ env m cm news s) (hb : 0 < b) (h : ∀ t s', Act s₀ env m cm news s' → Q (.int (a % b) t) s') : wpAny (MM w) A (binaryOp .Mod (.int a t) (.int b u)) Q E s :=
  mod_int' (by omega) (by rw [Int.fmod_eq_emod_of_nonneg _ (by omega)]; exact h _ _ (X.tok _))
theorem i_div (X : Act s₀ env m cm news s) (hb : 0 < b) (hb2 : b < 1073741824) (h : ∀ t s', Act s₀ env m cm news s' → Q (.int (a / b) t) s') : wpAny (MM w) A (binaryOp .FloorDiv (.int a t) (.int b u)) Q E s :=
  floordiv_int (by omega) (by rw [Int.fdiv_eq_ediv_of_nonneg _ (by omega)]; exact h _ _ (X.tok _)) (Or.inl (PyProof.noPylong_small (by omega)))
theorem i_pow (X : Act s₀ env m cm news s) (hn : 0 ≤ b) (hn2 : b ≤ 1000000) (ha : a.natAbs < 2 ^ 64) (h : ∀ t s', Act s₀ env m cm news s' → Q (.int (a ^ b.toNat) t) s') : wpAny (MM w) A (binaryOp .Pow (.int a t) (.int b u)) Q E s :=
  pow_int_small hn hn2 ha (h _ _ (X.tok _))
theorem i_eq (h : Q (.bool (decide (a = b))) s) : wpAny (MM w) A (compareOp .Eq (.int a t) (.int b u)) Q E s := eq_int (by rw [show (a == b) = decide (a = b) from rfl]; exact h)
theorem i_lt (h : Q (.bool (decide (a < b))) s) : wpAny (MM w) A (compareOp .Lt (.int a t) (.int b u)) Q E s := lt_int h
theorem i_le (h : Q (.bool (decide (a ≤ b))) s) : wpAny (MM w) A (compareOp .LtE (.int a t) (.int b u)) Q E s := le_int h
theorem i_gt (h : Q (.bool (decide (b < a))) s) : wpAny (MM w) A (compareOp .Gt (.int a t) (.int b u)) Q E s := gt_int h
end

theorem s_eq {x y : Str} {t u : Tok} {Q : Value → Shared → Prop} (h : Q (.bool (x == y)) s) : wpAny (MM w) A (compareOp .Eq (.str x t) (.str y u)) Q E s := eq_str h
theorem s_ne {x y : Str} {t u : Tok} {Q : Value → Shared → Prop} (h : Q (.bool (x != y)) s) : wpAny (MM w) A (compareOp .NotEq (.str x t) (.str y u)) Q E s := ne_str h
theorem s_add {x y : Str} {t u : Tok} {Q : Value → Shared → Prop} (X : Act s₀ env m cm news s) (hsz : x.length + y.length ≤ sizeLine) (h : ∀ t s', Act s₀ env m cm news s' → Q (.str (x ++ y) t) s') :
    wpAny (MM w) A (binaryOp .Add (.str x t) (.str y u)) Q E s := PyProof.Rows.add_str (fun t' tk => h _ _ (X.tok _)) hsz

theorem mk_list {vs : List Value} {Q : Value → Shared → Prop} (X : Act s₀ env m cm news s) (hsz : vs.length ≤ sizeLine) (h : ∀ l s', Act s₀ env m cm ((l, lst vs 0) :: news) s' → Q (.ref l) s') :
    wpAny (MM w) A (newList vs) Q E s := by
  refine wpAny_newList (h _ _ ?_) hsz
  exact X.grow (objs := [(s.heap.objs.size, lst vs 0)]) ⟨_, s.toks, rfl, fun b o e => Heap.get?_push_of_some _ e⟩ (NewIn.one (Heap.get?_push_size _ rfl) (get_none_of_le (Nat.le_refl _)))

theorem b_len {l : Addr} {vs : List Value} {Q : Value → Shared → Prop} (X : Act s₀ env m cm news s) (hl : s.heap.IsList l vs.toArray) (hsz : vs.length < 2 ^ 62) (h : ∀ t s', Act s₀ env m cm news s' → Q (.int vs.length t) s') :
    wpAny (MM w) A (call (.builtin "len") [.ref l]) Q E s :=
  len_list hl (by rw [List.size_toArray]; omega) (by rw [List.size_toArray]; exact h _ _ (X.tok _))

theorem sub_list {value slice : PySem.Expr} {l : Addr} {vs : List Value} {k : Int} {u : Tok} {v : Value} {Q : Value → Shared → Prop} (hl : s.heap.IsList l vs.toArray) (h0 : 0 ≤ k) (hhi : k < 2 ^ 62) (hx : vs[k.toNat]? = some v) (h : Q v s)
    (hs : subscripted slice false (.ref l) (.int k u) = operate [.ref l, .int k u] (getItem (.ref l) (.int k u)) := by with_unfolding_all rfl) :
    wpAny (MM w) A (subscriptTail value slice (.ref l) (.int k u)) Q E s :=
  tail_any hl.typeIs slot_list_getitem.lookup (wpAny_getItem_list hl h0 (by omega) (by simpa using hx) h) hs

theorem b_sorted {l : Addr} {vs : List Value} {ss : List Str} {Q : Value → Shared → Prop} (X : Act s₀ env m cm news s) (hl : s.heap.IsList l vs.toArray) (hS : StrsAre vs ss) (h64 : vs.length < 64)
    (h : ∀ l' vs' ss' n s', Act s₀ env m cm ((l', lst vs' n) :: news) s' → StrsAre vs' ss' → ss'.Perm ss → sortedS ss' = true → Q (.ref l') s') :
    wpAny (MM w) A (call (.builtin "sorted") [.ref l]) Q E s := by
  refine sorted_strs hl hS h64 fun out ss' a1 a2 a3 => ?_
  obtain ⟨e, he⟩ := sortedAll_at s.heap vs out
  refine h _ out.toList ss' e _ (X.grow (objs := [(s.heap.objs.size + 1, lst out.toList e)]) ⟨_, s.toks, rfl, fun b o e => sortedAll_old e⟩ (NewIn.one he (get_none_of_le (Nat.le_succ _)))) a1 a2 a3
end
end Mine
end

section
open PySem PySem.W PySem.Calls PyProof.Rows
set_option maxRecDepth 100000
set_option linter.unusedVariables false
namespace Mine

theorem slot_sub : Slot "re.Pattern" "sub" "re.Pattern.sub" :=
  .of (owner := "re.Pattern") (n := "sub") (by rw [typeLookup_type, builtinLookup_eq_fast]; kernel_rfl) (by decide +kernel) (by decide +kernel) (by decide +kernel)
    (by first | exact .inl (by decide +kernel) | exact .inr (by decide +kernel)) (by rw [isSubtype_type]; kernel_rfl)
theorem type_sub : typeOf (.builtin "re.Pattern.sub") = pure (.type "method_descriptor") := by show builtinType _ = _; rw [builtinType_eq_fast]; kernel_rfl
theorem entry_sub : entryFor table "re.Pattern.sub" = some Builtin.«re.Pattern.sub» := entryFor_of_tree (by kernel_rfl)
theorem entry_loop : entryFor table "re.Pattern.sub.loop" = some Builtin.«re.Pattern.sub.loop» := entryFor_of_tree (by kernel_rfl)
theorem args_sub (a b c : Value) : argsOk "re.Pattern.sub" ⟨[a, b, c], []⟩ := by unfold argsOk; kernel_rfl
theorem plainAttrs_pat : PlainAttrs "re.Pattern" :=
  ⟨⟨"object.__getattribute__", by rw [typeLookup_type, builtinLookup_eq_fast]; kernel_rfl, by decide +kernel⟩, by rw [typeLookup_type, builtinLookup_eq_fast]; kernel_rfl⟩
end Mine
end

section
open PySem PySem.W PySem.Calls PyProof.Rows
set_option maxRecDepth 100000
set_option linter.unusedVariables false
namespace Mine
open PySem.Sre
set_option maxHeartbeats 4000000
set_option linter.unusedSimpArgs false

def code1 : Array Nat := #[14, 4, 0, 1, 1, 6, 1, 16, 46, 1]
def code2 : Array Nat := #[14, 9, 4, 1, 2, 16, 10, 16, 13, 0, 7, 7, 16, 13, 16, 10, 15, 18, 5, 16, 10, 15, 13, 11, 16, 13, 5, 5, 0, 16, 10, 1, 15, 2, 0, 1]

theorem runFor_add (m : M) : ∀ (a b : Nat), m.runFor (a + b) = (m.runFor a).runFor b := by
  intro a
  induction a generalizing m with
  | zero => intro b; rw [Nat.zero_add]; rfl
  | succ a ih =>
    intro b
    rw [show a + 1 + b = (a + b) + 1 by omega]
    show (if m.outcome.isSome then m else M.runFor (a + b) m.step) = (if m.outcome.isSome then m else M.runFor a m.step).runFor b
    split
    · rename_i h
      cases b with
      | zero => rfl
      | succ b => show m = if m.outcome.isSome then m else _; rw [if_pos h]
    · exact ih _ b

def SearchIs (code text : Array Nat) (start : Nat) : Option (Nat × Nat) → Prop
  | none => ∃ k, k ≤ 2 ^ 60 ∧ ((forSearch code text 0 start text.size false).runFor k).outcome = some .failed
  | some (i, e) => ∃ k, k ≤ 2 ^ 60 ∧ ((forSearch code text 0 start text.size false).runFor k).outcome = some .matched ∧ ((forSearch code text 0 start text.size false).runFor k).start = i ∧ ((forSearch code text 0 start text.size false).runFor k).handed = e

/-- a try of the second pattern stands at its start -/
def at2 (text : Array Nat) (lim s : Nat) (first : Bool) (ls : Nat) (sn : Sre.Seen) : M :=
  { code := code2, text, lim, start := s, lastStart := ls, pc := 10, pos := s, handed := s, outermost := first, marks := #[], frames := [{ wait := .nextStart, pc := 10, pos := s, outermost := first }], weight := 1, seen := sn }

section
variable {text : Array Nat} {lim s : Nat} {first : Bool} {ls : Nat} {sn : Sre.Seen}
theorem run2_nl (hs : s < lim) (hc : text.getD s 0 = 10) :
    ((at2 text lim s first ls sn).runFor 9).outcome = some .matched ∧ ((at2 text lim s first ls sn).runFor 9).start = s ∧ ((at2 text lim s first ls sn).runFor 9).handed = s + 1 := by
  have h1 : ¬ lim ≤ s := by omega
  simp [M.runFor, M.step, at2, M.exec, M.word, code2, ops, M.alternative, M.attempt, M.say, accepts, h1, hc, M.resume, M.keep, M.putBack, itemWidth, M.frame]
theorem run2_crlf (hs : s + 1 < lim) (hc : text.getD s 0 = 13) (hd : text.getD (s + 1) 0 = 10) :
    ((at2 text lim s first ls sn).runFor 9).outcome = some .matched ∧ ((at2 text lim s first ls sn).runFor 9).start = s ∧ ((at2 text lim s first ls sn).runFor 9).handed = s + 2 := by
  have h1 : ¬ lim ≤ s := by omega
  have h2 : ¬ lim ≤ s + 1 := by omega
  simp [M.runFor, M.step, at2, M.exec, M.word, code2, ops, M.alternative, M.attempt, M.say, accepts, h1, h2, hc, hd, M.resume, M.keep, M.putBack, itemWidth, M.frame]
theorem run2_cr_end (hs : s + 1 = lim) (hc : text.getD s 0 = 13) :
    ((at2 text lim s first ls sn).runFor 15).outcome = some .matched ∧ ((at2 text lim s first ls sn).runFor 15).start = s ∧ ((at2 text lim s first ls sn).runFor 15).handed = s + 1 := by
  have h1 : ¬ lim ≤ s := by omega
  have h2 : lim ≤ s + 1 := by omega
  have hc' : text[s]?.getD 0 = 13 := by simpa using hc
  simp [M.runFor, M.step, at2, M.exec, M.word, code2, ops, M.alternative, M.attempt, M.say, accepts, h1, h2, hc', M.resume, M.keep, M.putBack, itemWidth, M.frame]
theorem run2_cr (hs : s + 1 < lim) (hc : text.getD s 0 = 13) (hd : text.getD (s + 1) 0 ≠ 10) :
    ((at2 text lim s first ls sn).runFor 15).outcome = some .matched ∧ ((at2 text lim s first ls sn).runFor 15).start = s ∧ ((at2 text lim s first ls sn).runFor 15).handed = s + 1 := by
  have h1 : ¬ lim ≤ s := by omega
  have h2 : ¬ lim ≤ s + 1 := by omega
  have hc' : text[s]?.getD 0 = 13 := by simpa using hc
  have hd' : (text[s + 1]?.getD 0 == 10) = false := by simpa using hd
  simp [M.runFor, M.step, at2, M.exec, M.word, code2, ops, M.alternative, M.attempt, M.say, accepts, h1, h2, hc', hd', M.resume, M.keep, M.putBack, itemWidth, M.frame]

def m2 (text : Array Nat) (lim pos : Nat) : M :=
  { code := code2, text, lim, start := pos, pc := 10, pos, handed := pos, marks := #[], seen := ({} : Sre.Seen).add 14 }
theorem fs2 {pos : Nat} : forSearch code2 text 0 pos lim false = if pos > lim || lim - pos < 1 then (m2 text lim pos).say false else { m2 text lim pos with lastStart := lim }.attemptFrom pos true := rfl

theorem inSet2 (c : Nat) (sn : Sre.Seen) : ∃ sn', inSet code2 c 36 5 true sn = .ok (c == 10 || c == 13, sn') := by
  by_cases h1 : c = 10
  · simp [inSet, code2, ops, h1]
  · by_cases h2 : c = 13
    · simp [inSet, code2, ops, h2]
    · have e1 : (c == 10) = false := by simpa using h1
      have e2 : (c == 13) = false := by simpa using h2
      simp [inSet, code2, ops, h1, h2, e1, e2]

theorem admitted2 {m : M} (hm : m.code = code2) : ∀ (fuel s : Nat) (sn : Sre.Seen), m.lim < fuel + s →
    (∃ i sn', s ≤ i ∧ i < m.lim ∧ (m.text.getD i 0 = 10 ∨ m.text.getD i 0 = 13) ∧ (∀ j, s ≤ j → j < i → m.text.getD j 0 ≠ 10 ∧ m.text.getD j 0 ≠ 13) ∧ m.admitted fuel s sn = .ok (some i, sn')) ∨
    ((∀ j, s ≤ j → j < m.lim → m.text.getD j 0 ≠ 10 ∧ m.text.getD j 0 ≠ 13) ∧ ∃ sn', m.admitted fuel s sn = .ok (none, sn')) := by
  intro fuel
  induction fuel with
  | zero => intro s sn h; exact .inr ⟨fun j h1 h2 => by omega, sn, rfl⟩
  | succ fuel ih =>
    intro s sn h
    show (∃ i sn', _ ∧ _ ∧ _ ∧ _ ∧ (if s ≥ m.lim then _ else _) = _) ∨ (_ ∧ ∃ sn', (if s ≥ m.lim then _ else _) = _)
    by_cases hs : s ≥ m.lim
    · rw [if_pos hs]
      exact .inr ⟨fun j h1 h2 => by omega, sn, rfl⟩
    · rw [if_neg hs, hm]
      obtain ⟨sn', e⟩ := inSet2 (m.text.getD s 0) sn
      rw [show code2.size = 36 from rfl, e]
      cases hb : (m.text.getD s 0 == 10 || m.text.getD s 0 == 13) with
      | true =>
        refine .inl ⟨s, sn', Nat.le_refl _, by omega, by simpa using hb, fun j h1 h2 => by omega, rfl⟩
      | false =>
        have hne : m.text.getD s 0 ≠ 10 ∧ m.text.getD s 0 ≠ 13 := by simpa using hb
        rcases ih (s + 1) sn' (by omega) with ⟨i, sn'', h1, h2, h3, h4, h5⟩ | ⟨h1, sn'', h2⟩
        · refine .inl ⟨i, sn'', by omega, h2, h3, fun j a b => ?_, h5⟩
          by_cases hj : j = s
          · rw [hj]; exact hne
          · exact h4 j (by omega) b
        · refine .inr ⟨fun j a b => ?_, sn'', h2⟩
          by_cases hj : j = s
          · rw [hj]; exact hne
          · exact h1 j (by omega) b
end

theorem search2 {text : Array Nat} {start : Nat} (hs : start ≤ text.size) :
    (∃ i e, SearchIs code2 text start (some (i, e)) ∧ start ≤ i ∧ i < text.size ∧ (∀ j, start ≤ j → j < i → text.getD j 0 ≠ 10 ∧ text.getD j 0 ≠ 13) ∧
      ((text.getD i 0 = 10 ∧ e = i + 1) ∨ (text.getD i 0 = 13 ∧ i + 1 < text.size ∧ text.getD (i + 1) 0 = 10 ∧ e = i + 2) ∨ (text.getD i 0 = 13 ∧ (i + 1 < text.size → text.getD (i + 1) 0 ≠ 10) ∧ e = i + 1))) ∨
    (SearchIs code2 text start none ∧ ∀ j, start ≤ j → j < text.size → text.getD j 0 ≠ 10 ∧ text.getD j 0 ≠ 13) := by
  unfold SearchIs
  rw [fs2]
  by_cases h : start < text.size
  · have h1 : (decide (start > text.size) || decide (text.size - start < 1)) = false := by simp; omega
    rw [h1]
    simp only [Bool.false_eq_true, if_false]
    have hf : ({ m2 text text.size start with lastStart := text.size } : M).hasFirstSet = true := rfl
    have ha := admitted2 (m := { m2 text text.size start with lastStart := text.size }) rfl (text.size + 1 - start) start (({} : Sre.Seen).add 14) (by show text.size < _; omega)
    have hat : ({ m2 text text.size start with lastStart := text.size } : M).attemptFrom start true = (match M.admitted { m2 text text.size start with lastStart := text.size } (text.size + 1 - start) start (({} : Sre.Seen).add 14) with
      | .ok (some s, seen) => ({ m2 text text.size start with lastStart := text.size, mustAdvance := false, seen } : M).attemptAt s true
      | .ok (none, seen) => ({ m2 text text.size start with lastStart := text.size, seen } : M).say false
      | .error why => ({ m2 text text.size start with lastStart := text.size } : M).stick why) := rfl
    rw [hat]
    rcases ha with ⟨i, sn', a1, a2, a3, a4, a5⟩ | ⟨a1, sn', a2⟩
    · rw [a5]
      have e2 : ({ m2 text text.size start with lastStart := text.size, mustAdvance := false, seen := sn' } : M).attemptAt i true = at2 text text.size i true text.size sn' := rfl
      simp only [e2]
      refine .inl ?_
      have a2' : i < text.size := a2
      have a4' : ∀ j, start ≤ j → j < i → text.getD j 0 ≠ 10 ∧ text.getD j 0 ≠ 13 := a4
      rcases a3 with hc | hc
      · have hc' : text.getD i 0 = 10 := hc
        exact ⟨i, i + 1, ⟨9, by decide, run2_nl a2' hc'⟩, a1, a2', a4', .inl ⟨hc', rfl⟩⟩
      · have hc' : text.getD i 0 = 13 := hc
        by_cases hd : i + 1 < text.size
        · by_cases hn : text.getD (i + 1) 0 = 10
          · exact ⟨i, i + 2, ⟨9, by decide, run2_crlf hd hc' hn⟩, a1, a2', a4', .inr (.inl ⟨hc', hd, hn, rfl⟩)⟩
          · exact ⟨i, i + 1, ⟨15, by decide, run2_cr hd hc' hn⟩, a1, a2', a4', .inr (.inr ⟨hc', fun _ => hn, rfl⟩)⟩
        · exact ⟨i, i + 1, ⟨15, by decide, run2_cr_end (by omega) hc'⟩, a1, a2', a4', .inr (.inr ⟨hc', fun q => absurd q hd, rfl⟩)⟩
    · rw [a2]
      refine .inr ⟨⟨1, by decide, rfl⟩, a1⟩
  · have h1 : (decide (start > text.size) || decide (text.size - start < 1)) = true := by simp; omega
    rw [h1]
    simp only [if_true]
    exact .inr ⟨⟨1, by decide, rfl⟩, fun j a b => by omega⟩
end Mine
end

section
open PySem PySem.W PySem.Calls PyProof.Rows
set_option maxRecDepth 100000
set_option linter.unusedVariables false
namespace Mine
open PySem.Sre
set_option maxHeartbeats 4000000
set_option linter.unusedSimpArgs false

/-- a try of the first pattern stands at its start -/
def at1 (text : Array Nat) (lim s : Nat) (first : Bool) (ls : Nat) (sn : Sre.Seen) : M :=
  { code := code1, text, lim, start := s, lastStart := ls, pc := 5, pos := s, handed := s, outermost := first, marks := #[], frames := [{ wait := .nextStart, pc := 5, pos := s, outermost := first }], weight := 1, seen := sn }

/-- a dot at a row's beginning -/
def Dot (text : Array Nat) (i : Nat) : Prop := i < text.size ∧ text.getD i 0 = 46 ∧ (i = 0 ∨ text.getD (i - 1) 0 = 10)

section
variable {text : Array Nat} {s : Nat} {first : Bool} {sn : Sre.Seen}

theorem run1_yes (h : Dot text s) :
    ((at1 text text.size s first text.size sn).runFor 5).outcome = some .matched ∧ ((at1 text text.size s first text.size sn).runFor 5).start = s ∧ ((at1 text text.size s first text.size sn).runFor 5).handed = s + 1 := by
  obtain ⟨h1, h2, h3⟩ := h
  have h1' : ¬ text.size ≤ s := by omega
  have h2' : text[s]?.getD 0 = 46 := by simpa using h2
  have h3' : (s == 0 || text[s - 1]?.getD 0 == 10) = true := by simpa using h3
  simp [M.runFor, M.step, at1, M.exec, M.word, code1, ops, M.isAt, M.attempt, M.say, accepts, h1', h2', h3', M.resume, M.keep, M.putBack, itemWidth, M.frame]

theorem run1_no (h : ¬ Dot text s) (hs : s < text.size) : ∃ k sn', k ≤ 3 ∧ (at1 text text.size s first text.size sn).runFor k = at1 text text.size (s + 1) false text.size sn' := by
  have h1 : ¬ text.size ≤ s := by omega
  cases h3 : (s == 0 || text[s - 1]?.getD 0 == 10) with
  | false =>
    clear h; generalize text.size = lim at h1 hs ⊢; exact ⟨2, _, by decide, by simp [M.runFor, M.step, at1, M.exec, M.word, code1, ops, M.isAt, M.attempt, M.say, accepts, h1, hs, h3, M.resume, M.keep, M.putBack, itemWidth, M.frame, M.attemptFrom, M.hasFirstSet, M.attemptAt]; rfl⟩
  | true =>
    have h2 : (text[s]?.getD 0 == 46) = false := by
      cases hb : (text[s]?.getD 0 == 46) with
      | false => rfl
      | true =>
        refine absurd ⟨hs, ?_, ?_⟩ h
        · simpa using hb
        · simpa using h3
    clear h; generalize text.size = lim at h1 hs ⊢; exact ⟨3, _, by decide, by simp [M.runFor, M.step, at1, M.exec, M.word, code1, ops, M.isAt, M.attempt, M.say, accepts, h1, hs, h2, h3, M.resume, M.keep, M.putBack, itemWidth, M.frame, M.attemptFrom, M.hasFirstSet, M.attemptAt]; rfl⟩

theorem run1_end : ∃ k, k ≤ 4 ∧ ((at1 text text.size text.size first text.size sn).runFor k).outcome = some .failed := by
  cases h3 : (text.size == 0 || text[text.size - 1]?.getD 0 == 10) with
  | false => exact ⟨3, by decide, by simp [M.runFor, M.step, at1, M.exec, M.word, code1, ops, M.isAt, M.attempt, M.say, accepts, h3, M.resume, M.keep, M.putBack, itemWidth, M.frame, M.attemptFrom, M.hasFirstSet, M.attemptAt]⟩
  | true => exact ⟨4, by decide, by simp [M.runFor, M.step, at1, M.exec, M.word, code1, ops, M.isAt, M.attempt, M.say, accepts, h3, M.resume, M.keep, M.putBack, itemWidth, M.frame, M.attemptFrom, M.hasFirstSet, M.attemptAt]⟩
end

theorem search1' {text : Array Nat} : ∀ (n s : Nat) (first : Bool) (sn : Sre.Seen), s + n = text.size →
    (∃ i k, s ≤ i ∧ Dot text i ∧ (∀ j, s ≤ j → j < i → ¬ Dot text j) ∧ k ≤ 3 * n + 5 ∧ ((at1 text text.size s first text.size sn).runFor k).outcome = some .matched ∧
      ((at1 text text.size s first text.size sn).runFor k).start = i ∧ ((at1 text text.size s first text.size sn).runFor k).handed = i + 1) ∨
    ((∀ j, s ≤ j → ¬ Dot text j) ∧ ∃ k, k ≤ 3 * n + 5 ∧ ((at1 text text.size s first text.size sn).runFor k).outcome = some .failed) := by
  intro n
  induction n with
  | zero =>
    intro s first sn e
    obtain rfl : s = text.size := by omega
    obtain ⟨k, hk, hr⟩ := run1_end (text := text) (first := first) (sn := sn)
    exact .inr ⟨fun j hj hd => by have := hd.1; omega, k, by omega, hr⟩
  | succ n ih =>
    intro s first sn e
    by_cases h : Dot text s
    · exact .inl ⟨s, 5, Nat.le_refl _, h, fun j a b => by omega, by omega, run1_yes h⟩
    · obtain ⟨k, sn', hk, hr⟩ := run1_no (first := first) (sn := sn) h (by omega)
      rcases ih (s + 1) false sn' (by omega) with ⟨i, k', a1, a2, a3, a4, a5⟩ | ⟨a1, k', a2, a3⟩
      · refine .inl ⟨i, k + k', by omega, a2, fun j x y => ?_, by omega, ?_⟩
        · by_cases hj : j = s
          · rw [hj]; exact h
          · exact a3 j (by omega) y
        · rw [runFor_add, hr]; exact a5
      · refine .inr ⟨fun j x => ?_, k + k', by omega, ?_⟩
        · by_cases hj : j = s
          · rw [hj]; exact h
          · exact a1 j (by omega)
        · rw [runFor_add, hr]; exact a3

def m1 (text : Array Nat) (lim pos : Nat) : M :=
  { code := code1, text, lim, start := pos, pc := 5, pos, handed := pos, marks := #[], seen := ({} : Sre.Seen).add 14 }
theorem fs1 {text : Array Nat} {lim pos : Nat} : forSearch code1 text 0 pos lim false = if pos > lim || lim - pos < 1 then (m1 text lim pos).say false else { m1 text lim pos with lastStart := lim }.attemptFrom pos true := rfl

theorem search1 {text : Array Nat} {start : Nat} (hs : start ≤ text.size) (hsz : text.size ≤ 2 ^ 24) :
    (∃ i, SearchIs code1 text start (some (i, i + 1)) ∧ start ≤ i ∧ Dot text i ∧ ∀ j, start ≤ j → j < i → ¬ Dot text j) ∨
    (SearchIs code1 text start none ∧ ∀ j, start ≤ j → ¬ Dot text j) := by
  unfold SearchIs
  rw [fs1]
  by_cases h : start < text.size
  · have h1 : (decide (start > text.size) || decide (text.size - start < 1)) = false := by simp; omega
    rw [h1]
    simp only [Bool.false_eq_true, if_false]
    have hat : ({ m1 text text.size start with lastStart := text.size } : M).attemptFrom start true = at1 text text.size start true text.size (({} : Sre.Seen).add 14) := rfl
    rw [hat]
    rcases search1' (text := text) (text.size - start) start true (({} : Sre.Seen).add 14) (by omega) with ⟨i, k, a1, a2, a3, a4, a5⟩ | ⟨a1, k, a2, a3⟩
    · exact .inl ⟨i, ⟨k, by omega, a5⟩, a1, a2, a3⟩
    · exact .inr ⟨⟨k, by omega, a3⟩, a1⟩
  · have h1 : (decide (start > text.size) || decide (text.size - start < 1)) = true := by simp; omega
    rw [h1]
    simp only [if_true]
    exact .inr ⟨⟨1, by decide, rfl⟩, fun j a b => by have := b.1; omega⟩
end Mine
end

section
open PySem PySem.W PySem.Calls PyProof.Rows
set_option maxRecDepth 100000
set_option linter.unusedVariables false
namespace Mine
set_option maxHeartbeats 4000000

def S (l : List Nat) : Str := ⟨l.toArray⟩
theorem S_cps (l : List Nat) : (S l).cps = l.toArray := rfl
theorem S_app (a b : List Nat) : S a ++ S b = S (a ++ b) := by
  show (⟨a.toArray ++ b.toArray⟩ : Str) = ⟨(a ++ b).toArray⟩
  simp
theorem S_len (l : List Nat) : (S l).length = l.length := by show l.toArray.size = _; simp
theorem S_inj {a b : List Nat} (h : S a = S b) : a = b := by
  have := congrArg Str.cps h
  simpa [S] using this

structure IsPat (h : Heap) (p : Addr) (code : Array Nat) : Prop where
  is : ∃ o fs c oc items n, h.get? p = some o ∧ o.cls = .type "re.Pattern" ∧ o.dict = none ∧ o.data = .fields fs ∧ fs.getD 2 .none = .int 0 0 ∧ fs.getD 5 .none = .ref c ∧ Builtin.Re.reRawNat (fs.getD 6 .none) = 0 ∧
    h.get? c = some oc ∧ oc.data = .seq items n ∧ (items.map Builtin.Re.reRawOf).map (·.toNat) = code

theorem IsPat.keeps {h h' : Heap} {p : Addr} {code : Array Nat} (x : IsPat h p code) (k : h.StaysIn h') : IsPat h' p code := by
  obtain ⟨o, fs, c, oc, items, n, h1, h2, h3, h4, h5, h6, h7, h8, h9, h10⟩ := x.is
  exact ⟨o, fs, c, oc, items, n, k _ _ h1, h2, h3, h4, h5, h6, h7, k _ _ h8, h9, h10⟩

section
variable {w : World} {A : Around} {E : Value → Shared → Prop} {s : Shared}

theorem re_target {p : Addr} {code : Array Nat} {x : Str} {t : Tok} {Q : Builtin.Re.ReTarget → Shared → Prop} (hp : IsPat s.heap p code)
    (h : Q { pattern := .ref p, string := .str x t, code, text := x.cps, kind := 0, groups := 0, pos := 0, lim := x.cps.size } s) :
    wpAny (MM w) A (Builtin.Re.reWholeTarget (.ref p) (.str x t)) Q E s := by
  obtain ⟨o, fs, c, oc, items, n, h1, h2, h3, h4, h5, h6, h7, h8, h9, h10⟩ := hp.is
  unfold Builtin.Re.reWholeTarget
  refine wpAny_bind (wpAny_fieldsOf h1 h4 ?_)
  have e1 : (Builtin.Re.reTextOf (.str x t) : Sem _) = pure (x.cps, 0) := rfl
  rw [e1]
  refine wpAny_bind (wpAny_pure ?_)
  dsimp only
  rw [h7, h6, h5]
  have e2 : ((0 : Nat) == 1) = false := rfl
  simp only [e2, Bool.and_false, Bool.false_and, Bool.false_eq_true, if_false]
  have e3 : (Builtin.Re.reNoCollectionInside (.str x t) 0 : Sem _) = pure () := rfl
  rw [e3]
  refine wpAny_bind (wpAny_pure ?_)
  refine wpAny_bind ?_
  unfold Builtin.Re.reRawItems
  refine wpAny_bind (wpAny_seqItems h8 h9 (wpAny_pure (wpAny_pure ?_)))
  dsimp only [Option.getD]
  rw [h10]
  exact h

theorem re_drive {Q : Sre.M → Shared → Prop} : ∀ (turns : Nat) (m : Sre.M) (k : Nat), k ≤ 4 * turns → (m.runFor k).outcome.isSome = true → Q (m.runFor k) s → 0 < turns →
    wpAny (MM w) A (Builtin.Re.reDrive turns m) Q E s := by
  intro turns
  induction turns with
  | zero => intro m k _ _ _ h; exact absurd h (by decide)
  | succ turns ih =>
    intro m k hk ho hq _
    show wpAny (MM w) A (if (m.runFor Builtin.Re.reTurnSteps).outcome.isSome = true then pure (m.runFor Builtin.Re.reTurnSteps) else do rule "sre.turn"; Builtin.Re.reDrive turns (m.runFor Builtin.Re.reTurnSteps)) Q E s
    have stop : ∀ (m : Sre.M) (j : Nat), m.outcome.isSome = true → m.runFor j = m := by
      intro m j h
      cases j with
      | zero => rfl
      | succ j => show (if m.outcome.isSome then m else _) = m; rw [if_pos h]
    have e4 : Builtin.Re.reTurnSteps = 4 := rfl
    rw [e4]
    by_cases h4 : (m.runFor 4).outcome.isSome = true
    · rw [if_pos h4]
      have : m.runFor k = m.runFor 4 := by
        rcases Nat.le_total k 4 with h | h
        · obtain ⟨j, hj⟩ := Nat.exists_eq_add_of_le h
          rw [hj, Mine.runFor_add, stop _ _ ho]
        · obtain ⟨j, rfl⟩ := Nat.exists_eq_add_of_le h
          rw [Mine.runFor_add, stop _ _ h4]
      rw [← this]; exact wpAny_pure hq
    · rw [if_neg h4]
      have hk4 : 4 < k := by
        rcases Nat.lt_or_ge 4 k with h | h
        · exact h
        · exfalso
          obtain ⟨j, hj⟩ := Nat.exists_eq_add_of_le h
          rw [hj, Mine.runFor_add, stop _ _ ho] at h4
          exact h4 ho
      obtain ⟨j, rfl⟩ := Nat.exists_eq_add_of_le (Nat.le_of_lt hk4)
      rw [Mine.runFor_add] at ho hq
      exact wpAny_bind (wpAny_rule (ih _ j (by omega) ho hq (by omega)))

theorem re_rules {l : List Nat} {f : Nat → Bool} {g : Nat → String} {Q : PUnit → Shared → Prop} (h : Q ⟨⟩ s) :
    wpAny (MM w) A (forIn l PUnit.unit fun i _ => (if f i = true then do rule (g i); pure (ForInStep.yield PUnit.unit) else pure (ForInStep.yield PUnit.unit))) Q E s := by
  induction l with
  | nil => rw [List.forIn_nil]; exact wpAny_pure h
  | cons i r ih =>
    rw [List.forIn_cons]
    refine wpAny_bind ?_
    cases hf : f i with
    | false =>
      simp only [Bool.false_eq_true, if_false]
      exact wpAny_pure ih
    | true =>
      simp only [if_true]
      exact wpAny_bind (wpAny_rule (wpAny_pure ih))

theorem re_run {m : Sre.M} {Q : Option Sre.M → Shared → Prop} {k : Nat} (hk : k ≤ 2 ^ 60)
    (h : ((m.runFor k).outcome = some .matched ∧ Q (some (m.runFor k)) s) ∨ ((m.runFor k).outcome = some .failed ∧ Q none s)) :
    wpAny (MM w) A (Builtin.Re.reRunToEnd m) Q E s := by
  unfold Builtin.Re.reRunToEnd
  refine wpAny_bind (re_drive (2 ^ 64) m k (by omega) ?_ ?_ (by decide))
  · rcases h with h | h <;> rw [h.1] <;> rfl
  · refine wpAny_bind ?_
    refine re_rules ?_
    rcases h with h | h <;> rw [h.1] <;> exact wpAny_pure h.2
end
end Mine
end

section
open PySem PySem.W PySem.Calls PyProof.Rows
set_option maxRecDepth 100000
set_option linter.unusedVariables false
namespace Mine
set_option maxHeartbeats 4000000

/-- what a search tells of the rest of the text -/
structure Subs (code : Array Nat) (T repl : List Nat) (F : Nat → List Nat) : Prop where
  step : ∀ start, start ≤ T.length → (SearchIs code T.toArray start none ∧ F start = T.drop start) ∨
    ∃ i e, SearchIs code T.toArray start (some (i, e)) ∧ start ≤ i ∧ i < e ∧ e ≤ T.length ∧ F start = (T.drop start).take (i - start) ++ repl ++ F e

theorem push_lst {w : World} {A : Around} {E : Value → Shared → Prop} {s : Shared} {a : Addr} {vs : List Value} {k : Nat} {v : Value} {Q : Unit → Shared → Prop} (ho : s.heap.get? a = some (lst vs k)) (hz : vs.length ≤ 2 ^ 23)
    (h : ∀ h', h'.get? a = some (lst (vs ++ [v]) (k + 1)) → Heap.SameBut a s.heap h' → Q () { s with heap := h' }) : wpAny (MM w) A (updateSeq a fun x => x.push v) Q E s := by
  have e24 : sizeLine = 2 ^ 24 := rfl
  refine wpAny_updateSeq ho rfl (h _ ?_ (Heap.SameBut.update ..)) (by rw [List.size_toArray, e24]; omega) (by rw [Array.size_push, List.size_toArray, e24]; omega)
  rw [Heap.get?_update_self _ ho rfl]
  simp [Obj.mapSeq, lst]

theorem strsAre_snoc {vs : List Value} {ss : List Str} {x : Str} {t : Tok} (h : StrsAre vs ss) : StrsAre (vs ++ [.str x t]) (ss ++ [x]) := by
  induction h with
  | nil => exact .cons x t .nil
  | cons y u r ih => exact .cons y u ih

theorem extract_list (T : List Nat) (i j : Nat) : (S T).cps.extract i j = ((T.drop i).take (j - i)).toArray := by
  simp [S]

theorem join_fold (ss : List (List Nat)) : ∀ acc : List Nat, (ss.map S).foldl (fun acc p => acc ++ Str.empty.cps ++ p.cps) acc.toArray = (acc ++ ss.flatten).toArray := by
  induction ss with
  | nil => intro acc; simp
  | cons x r ih =>
    intro acc
    rw [List.map_cons, List.foldl_cons]
    have : acc.toArray ++ Str.empty.cps ++ (S x).cps = (acc ++ x).toArray := by simp [S, Str.empty]
    rw [this, ih]
    simp
theorem join_S {ss : List (List Nat)} : Txt.join Str.empty (ss.map S) = S ss.flatten := by
  unfold Txt.join Builtin.Str.glued
  cases ss with
  | nil => rfl
  | cons x r =>
    rw [List.map_cons, List.drop_one, List.tail_cons, List.headD_cons]
    show (⟨(r.map S).foldl (fun acc p => acc ++ Str.empty.cps ++ p.cps) x.toArray⟩ : Str) = _
    rw [join_fold]
    simp [S]
theorem sum_len_S (ss : List (List Nat)) : ((ss.map S).map (·.length)).sum = ss.flatten.length := by
  induction ss with
  | nil => rfl
  | cons x r ih => rw [List.map_cons, List.map_cons, List.sum_cons, ih, S_len, List.flatten_cons, List.length_append]

theorem sub_loop {w : World} {A : Around} {s₀ : Shared} {p : Addr} {code : Array Nat} {T repl : List Nat} {t1 t2 : Tok} {F : Nat → List Nat} {R : Result → Shared → Prop} {L : Addr}
    (hp : IsPat s₀.heap p code) (hF : Subs code T repl F) (hT : T.length ≤ 2 ^ 20) (hF0 : (F 0).length ≤ 2 ^ 22) (hL : s₀.heap.get? L = none)
    (hR : ∀ t h' tk, s₀.heap.StaysIn h' → R (.ok (.ret (.str (S (F 0)) t))) { s₀ with heap := h', toks := tk }) :
    ∀ (m done : Nat) (n : Int) (lls : List (List Nat)) (vs : List Value) (k : Nat) (h : Heap) (tk : Nat), done + m = T.length → s₀.heap.StaysIn h → h.get? L = some (lst vs k) → StrsAre vs (lls.map S) → vs.length ≤ 2 * done →
      lls.flatten ++ F done = F 0 →
      codeAny (MM w) A (.builtin "re.Pattern.sub.loop" ⟨[.ref p, .str (S T) t2, .str (S repl) t1, rawInt 0, rawInt 0, rawInt n, rawInt done, rawInt done, .bool false, .ref L, .bool false], []⟩) R { s₀ with heap := h, toks := tk } := by
  intro m
  induction m using Nat.strongRecOn with
  | _ m ih =>
  intro done n lls vs k h tk hm hst hLv hS hlen hcat
  refine codeAny_builtin entry_loop ?_
  unfold Builtin.«re.Pattern.sub.loop»
  dsimp only [rawInt]
  refine wpAny_bind (re_target (hp.keeps hst) ?_)
  have e0 : ((0 : Int) == 0) = true := rfl
  have e00 : ((0 : Int) != 0) = false := rfl
  simp only [e0, e00, if_true, Bool.false_and, Bool.false_eq_true, if_false]
  have e1 : (Builtin.Re.reLiteralCannotBeTurned (.str (S repl) t1) : Sem _) = pure () := rfl
  rw [e1]
  refine wpAny_bind (wpAny_pure ?_)
  have e2 : ((done : Int)).toNat = done := rfl
  have e3 : (S T).cps = T.toArray := rfl
  have e4 : (S T).cps.size = T.length := by rw [e3, List.size_toArray]
  rw [e2]
  unfold Builtin.Re.reNextFound
  dsimp only
  have notL : ∀ b o, s₀.heap.get? b = some o → b ≠ L := fun b o e q => by rw [q, hL] at e; cases e
  rcases hF.step done (by omega) with ⟨⟨k', hk', ho⟩, hf⟩ | ⟨i, e, ⟨k', hk', ho, hi, he⟩, h1, h2, h3, hf⟩
  · rw [List.size_toArray] at ho
    refine wpAny_bind (re_run (k := k') hk' (.inr ⟨by rw [e4]; exact ho, ?_⟩))
    dsimp only
    rw [e4, e3]
    have tail : ∀ (h' : Heap) (tk' : Nat) (vs' : List Value) (kk : Nat) (lls' : List (List Nat)), s₀.heap.StaysIn h' → h'.get? L = some (lst vs' kk) → StrsAre vs' (lls'.map S) → lls'.flatten = F 0 →
        wpAny (MM w) (A.under (.builtin "re.Pattern.sub.loop" ⟨[.ref p, .str (S T) t2, .str (S repl) t1, .int 0 0, .int 0 0, .int n 0, .int done 0, .int done 0, .bool false, .ref L, .bool false], []⟩))
          (do
            let joiner ← Builtin.Re.reSlice T.toArray 0 0 0
            let items ← seqItems? (Value.ref L)
            if (items.getD #[]).isEmpty = true then do
                let v ← (pure joiner : Sem Value)
                ret v
              else do
                let v ← call (Value.builtin (if ((0 : Nat) == 0) = true then "str.join" else "bytes.join")) [joiner, Value.ref L]
                ret v)
          (fun fin s' => match fin with | .done f => R (.ok f) s' | .again c' => c'.quiet = true ∧ codeAny (MM w) A c' R s') (fun e s' => R (.error e) s') { s₀ with heap := h', toks := tk' } := by
      intro h' tk' vs' kk lls' st hLv' hS' hcat'
      have e7 : ((0 : Nat) == 0) = true := rfl
      have hx : (⟨T.toArray.extract 0 0⟩ : Str) = Str.empty := by
        show (⟨(S T).cps.extract 0 0⟩ : Str) = _
        rw [extract_list]; simp [Str.empty]
      unfold Builtin.Re.reSlice
      rw [if_pos e7, if_pos e7, hx]
      refine wpAny_bind (wpAny_mkStr ?_ (by decide))
      refine wpAny_bind (wpAny_seqItems hLv' rfl ?_)
      dsimp only [Option.getD]
      by_cases hb : vs'.toArray.isEmpty = true
      · rw [if_pos hb]
        refine wpAny_bind (wpAny_pure (wpAny_pure ?_))
        have hv : vs' = [] := by simpa using hb
        subst hv
        have hl : lls' = [] := by
          cases lls' with
          | nil => rfl
          | cons x r => cases hS'
        subst hl
        have := hR tk' h' (tk' + 1) st
        rw [← hcat'] at this
        exact this
      · rw [if_neg hb]
        refine wpAny_bind (join_list (lst_is hLv') hS' ?_ fun t' k' => wpAny_pure ?_)
        · rw [sum_len_S, hcat', show Str.empty.length = 0 from rfl]; omega
        · rw [join_S, hcat']
          exact hR t' h' k' st
    by_cases hd : done < T.length
    · rw [if_pos hd]
      have e7 : ((0 : Nat) == 0) = true := rfl
      have hx : (⟨T.toArray.extract done T.length⟩ : Str) = S (T.drop done) := by
        show (⟨(S T).cps.extract done T.length⟩ : Str) = _
        rw [extract_list, List.take_of_length_le (by rw [List.length_drop]; exact Nat.le_refl _)]; rfl
      refine wpAny_bind (m := Builtin.Re.reSlice T.toArray 0 done T.length) ?_
      unfold Builtin.Re.reSlice
      rw [if_pos e7]
      refine wpAny_mkStr ?_ (by rw [hx, S_len, List.length_drop]; show _ ≤ 2 ^ 24; omega)
      refine wpAny_bind (push_lst hLv (by omega) fun h'' hg hs => ?_)
      refine tail h'' _ (vs ++ [.str ⟨T.toArray.extract done T.length⟩ tk]) (k + 1) (lls ++ [T.drop done]) (fun b o q => (hs.2 b (notL b o q)).trans (hst b o q)) hg ?_ ?_
      · rw [hx, List.map_append]; exact strsAre_snoc hS
      · rw [← hcat, hf]
        simp
    · rw [if_neg hd]
      refine tail h tk vs k lls hst hLv hS ?_
      rw [← hcat, hf, List.drop_of_length_le (by omega)]
      simp
  · rw [List.size_toArray] at ho hi he
    refine wpAny_bind (re_run (k := k') hk' (.inl ⟨by rw [e4]; exact ho, ?_⟩))
    dsimp only
    rw [e4, e3, hi, he]
    have e5 : (e == i) = false := by simp; omega
    rw [e5]
    have tail : ∀ (h' : Heap) (tk' : Nat) (vs' : List Value) (kk : Nat) (lls' : List (List Nat)), s₀.heap.StaysIn h' → h'.get? L = some (lst vs' kk) → StrsAre vs' (lls'.map S) → vs'.length ≤ 2 * done + 1 → lls'.flatten ++ (repl ++ F e) = F 0 →
        wpAny (MM w) (A.under (.builtin "re.Pattern.sub.loop" ⟨[.ref p, .str (S T) t2, .str (S repl) t1, .int 0 0, .int 0 0, .int n 0, .int done 0, .int done 0, .bool false, .ref L, .bool false], []⟩))
          (do
            let item ← (pure (Value.str (S repl) t1) : Sem Value)
            if (item != Value.none) = true then do
                updateSeq L fun x => x.push item
                again (.builtin "re.Pattern.sub.loop" ⟨[.ref p, .str (S T) t2, .str (S repl) t1, .int 0 0, .int 0 0, .int (n + 1) 0, .int e 0, .int e 0, .bool false, .ref L, .bool false], []⟩)
              else again (.builtin "re.Pattern.sub.loop" ⟨[.ref p, .str (S T) t2, .str (S repl) t1, .int 0 0, .int 0 0, .int (n + 1) 0, .int e 0, .int e 0, .bool false, .ref L, .bool false], []⟩))
          (fun fin s' => match fin with | .done f => R (.ok f) s' | .again c' => c'.quiet = true ∧ codeAny (MM w) A c' R s') (fun e s' => R (.error e) s') { s₀ with heap := h', toks := tk' } := by
      intro h' tk' vs' kk lls' st hLv' hS' hlen' hcat'
      refine wpAny_bind (wpAny_pure ?_)
      have e6 : (Value.str (S repl) t1 != Value.none) = true := rfl
      rw [if_pos e6]
      refine wpAny_bind (push_lst hLv' (by omega) fun h'' hg hs => ?_)
      refine wpAny_pure ⟨plainId_quiet (id := "re.Pattern.sub.loop") (by decide +kernel) _, ?_⟩
      refine ih (T.length - e) (by omega) e (n + 1) (lls' ++ [repl]) (vs' ++ [.str (S repl) t1]) (kk + 1) h'' tk' (by omega) (fun b o q => (hs.2 b (notL b o q)).trans (st b o q)) hg ?_ ?_ ?_
      · rw [List.map_append]; exact strsAre_snoc hS'
      · rw [List.length_append]; simp; omega
      · rw [List.flatten_append, List.append_assoc]
        simpa using hcat'
    by_cases hd : done < i
    · rw [if_pos hd]
      unfold Builtin.Re.reSlice
      have e7 : ((0 : Nat) == 0) = true := rfl
      rw [if_pos e7]
      have hx : (⟨T.toArray.extract done i⟩ : Str) = S ((T.drop done).take (i - done)) := by
        show (⟨(S T).cps.extract done i⟩ : Str) = _
        rw [extract_list]; rfl
      refine wpAny_bind (wpAny_mkStr ?_ (by rw [hx, S_len, List.length_take, List.length_drop]; show _ ≤ 2 ^ 24; omega))
      refine wpAny_bind (push_lst hLv (by omega) fun h'' hg hs => ?_)
      refine tail h'' _ (vs ++ [.str ⟨T.toArray.extract done i⟩ tk]) (k + 1) (lls ++ [(T.drop done).take (i - done)]) (fun b o q => (hs.2 b (notL b o q)).trans (hst b o q)) hg ?_ ?_ ?_
      · rw [hx, List.map_append]; exact strsAre_snoc hS
      · rw [List.length_append]; simp; omega
      · rw [← hcat, hf]
        simp [List.append_assoc]
    · rw [if_neg hd]
      have hdi : i = done := by omega
      refine tail h tk vs k lls hst hLv hS (by omega) ?_
      rw [← hcat, hf, hdi]
      simp
end Mine
end

section
open PySem PySem.W PySem.Calls PyProof.Rows
set_option maxRecDepth 100000
set_option linter.unusedVariables false
namespace Mine
set_option maxHeartbeats 4000000

theorem str_no_call : typeLookup (.type "str") (Str.ofString "__call__") = pure none := by rw [typeLookup_type, builtinLookup_eq_fast]; kernel_rfl

theorem sub_gives {w : World} {A : Around} {s : Shared} {p : Addr} {code : Array Nat} {T repl : List Nat} {t1 t2 : Tok} {F : Nat → List Nat}
    (hp : IsPat s.heap p code) (hF : Subs code T repl F) (hT : T.length ≤ 2 ^ 20) (hF0 : (F 0).length ≤ 2 ^ 22) (hr : (S repl).cps.contains 92 = false) :
    Gives w A (call (.builtin "re.Pattern.sub") [.ref p, .str (S repl) t1, .str (S T) t2]) s (fun v objs => objs = [] ∧ ∃ t, v = .str (S (F 0)) t) := by
  obtain ⟨o, fs, c, oc, items, n, h1, h2, h3, h4, h5, h6, h7, h8, h9, h10⟩ := hp.is
  refine wpAny_call (codeAny_call_builtin slot_sub.plain entry_sub (slot_sub.check _ _ _ _ _ _ _ _ ⟨o, h1, h2⟩ (args_sub _ _ _) ?_))
  unfold Builtin.«re.Pattern.sub» Builtin.Re.reSubstitute
  dsimp only
  have e1 : (Builtin.Re.reNamed "re.Pattern.sub" "sub" ["repl", "string", "count"] 2 [.str (S repl) t1, .str (S T) t2] [] : Sem _) = pure [some (.str (S repl) t1), some (.str (S T) t2), none] := rfl
  rw [e1]
  refine wpAny_bind (wpAny_pure ?_)
  dsimp only
  refine wpAny_bind (wpAny_pure ?_)
  refine wpAny_bind (wpAny_specialOf (typeIs_str _ _ _) str_no_call ?_)
  simp only [Option.isSome_none, Bool.false_eq_true, if_false]
  refine wpAny_bind (m := asStr? (.str (S repl) t1)) (wpAny_pure (a := some (S repl)) ?_)
  dsimp only
  rw [hr]
  refine wpAny_bind (wpAny_pure ?_)
  rw [if_pos (by rfl)]
  refine wpAny_bind (wpAny_pure ?_)
  refine wpAny_bind (wpAny_holding (re_target hp ?_))
  dsimp only
  rw [if_neg (by decide)]
  refine wpAny_bind (wpAny_newList ?_ (by decide))
  refine wpAny_pure ⟨plainId_quiet (id := "re.Pattern.sub.loop") (by decide +kernel) _, ?_⟩
  have hnew : s.heap.get? s.heap.objs.size = none := get_none_of_le (Nat.le_refl _)
  refine sub_loop (s₀ := s) (L := s.heap.objs.size) hp hF hT hF0 hnew ?_ T.length 0 0 [] [] 0 _ s.toks (by omega) (fun b o e => Heap.get?_push_of_some _ e) (Heap.get?_push_size _ rfl) .nil (by simp) (by simp)
  intro t h' tk st
  exact ⟨[], ⟨rfl, t, rfl⟩, NewIn.nil, h', tk, rfl, st⟩

/-- the texts -/
def fixL : List Nat → List Nat
  | [] => []
  | 13 :: 10 :: r => 13 :: 10 :: fixL r
  | c :: r => if c = 10 ∨ c = 13 then 13 :: 10 :: fixL r else c :: fixL r

def dotL : Bool → List Nat → List Nat
  | _, [] => []
  | b, c :: r => if b = true ∧ c = 46 then 46 :: 46 :: dotL false r else c :: dotL (c == 10) r

end Mine
end

section
open PySem PySem.W PySem.Calls PyProof.Rows
set_option maxRecDepth 100000
set_option linter.unusedVariables false
namespace Mine
set_option maxHeartbeats 4000000

theorem fixL_cons (c : Nat) (r : List Nat) (h : ∀ r', c = 13 → r = 10 :: r' → False) : fixL (c :: r) = if c = 10 ∨ c = 13 then 13 :: 10 :: fixL r else c :: fixL r := by
  rw [fixL]
  exact h
theorem fixL_skip : ∀ (a r : List Nat), (∀ c ∈ a, c ≠ 10 ∧ c ≠ 13) → fixL (a ++ r) = a ++ fixL r
  | [], r, _ => rfl
  | c :: a, r, h => by
    have hc := h c (.head _)
    rw [List.cons_append, fixL_cons _ _ (fun _ e _ => hc.2 e), if_neg (fun q => q.elim hc.1 hc.2), fixL_skip a r (fun x hx => h x (.tail _ hx))]
    rfl
theorem fixL_nl (r : List Nat) : fixL (10 :: r) = 13 :: 10 :: fixL r := by rw [fixL_cons _ _ (fun _ e _ => by cases e), if_pos (.inl rfl)]
theorem fixL_crlf (r : List Nat) : fixL (13 :: 10 :: r) = 13 :: 10 :: fixL r := by rw [fixL]
theorem fixL_cr (r : List Nat) (h : ∀ r', r ≠ 10 :: r') : fixL (13 :: r) = 13 :: 10 :: fixL r := by
  rw [fixL_cons _ _ (fun r' _ e => h r' e), if_pos (.inr rfl)]
theorem fixL_len : ∀ (n : Nat) (r : List Nat), r.length ≤ n → (fixL r).length ≤ 2 * r.length := by
  intro n
  induction n with
  | zero => intro r h; cases r with | nil => exact Nat.le_refl _ | cons => simp at h
  | succ n ih =>
    intro r h
    cases r with
    | nil => exact Nat.le_refl _
    | cons c r =>
      have hr : r.length ≤ n := by simpa using h
      by_cases hc : c = 13 ∧ ∃ r', r = 10 :: r'
      · obtain ⟨rfl, r', rfl⟩ := hc
        have := ih r' (by simp at hr; omega)
        rw [fixL_crlf]
        simp only [List.length_cons]; omega
      · have := ih r hr
        rw [fixL_cons _ _ (fun r' e1 e2 => hc ⟨e1, r', e2⟩)]
        split <;> simp only [List.length_cons] <;> omega

theorem getD_list (T : List Nat) (j : Nat) : T.toArray.getD j 0 = T.getD j 0 := by simp

theorem drop_split (T : List Nat) {a i : Nat} (h : a ≤ i) : T.drop a = (T.drop a).take (i - a) ++ T.drop i := by
  have := List.take_append_drop (i - a) (T.drop a)
  rw [List.drop_drop, show a + (i - a) = i by omega] at this
  exact this.symm
theorem drop_get (T : List Nat) {i : Nat} (h : i < T.length) : T.drop i = T.getD i 0 :: T.drop (i + 1) := by
  rw [List.drop_eq_getElem_cons h]
  congr 1
  simp [List.getD_eq_getElem?_getD, h]
theorem mem_seg {T : List Nat} {a i c : Nat} (h : c ∈ (T.drop a).take (i - a)) : ∃ j, a ≤ j ∧ j < i ∧ T.getD j 0 = c := by
  obtain ⟨k, hk, rfl⟩ := List.getElem_of_mem h
  rw [List.length_take, List.length_drop] at hk
  refine ⟨a + k, by omega, by omega, ?_⟩
  rw [List.getElem_take, List.getElem_drop]
  simp [List.getD_eq_getElem?_getD, show a + k < T.length by omega]

theorem subs2 (T : List Nat) : Subs code2 T [13, 10] (fun i => fixL (T.drop i)) := by
  refine ⟨fun start hs => ?_⟩
  have hs' : start ≤ T.toArray.size := by simpa using hs
  rcases search2 hs' with ⟨i, e, h1, h2, h3, h4, h5⟩ | ⟨h1, h2⟩
  · right
    have h3' : i < T.length := by simpa using h3
    simp only [getD_list, List.size_toArray] at h4 h5
    have hsk : ∀ c ∈ (T.drop start).take (i - start), c ≠ 10 ∧ c ≠ 13 := fun c hc => by
      obtain ⟨j, a, b, rfl⟩ := mem_seg hc
      exact h4 j a b
    have key : fixL (T.drop start) = (T.drop start).take (i - start) ++ fixL (T.drop i) := by
      conv => lhs; rw [drop_split T h2]
      exact fixL_skip _ _ hsk
    refine ⟨i, e, h1, h2, ?_⟩
    rcases h5 with ⟨a, rfl⟩ | ⟨a, b, c, rfl⟩ | ⟨a, b, rfl⟩
    · refine ⟨by omega, by omega, ?_⟩
      rw [key, drop_get T h3', a, fixL_nl]
      simp
    · refine ⟨by omega, by omega, ?_⟩
      rw [key, drop_get T h3', a, drop_get T b, c, fixL_crlf]
      simp
    · refine ⟨by omega, by omega, ?_⟩
      rw [key, drop_get T h3', a, fixL_cr]
      · simp
      · intro r' e
        by_cases hb : i + 1 < T.length
        · rw [drop_get T hb] at e
          exact b hb (List.cons.inj e).1
        · rw [List.drop_of_length_le (by omega)] at e
          cases e
  · left
    simp only [getD_list, List.size_toArray] at h2
    refine ⟨h1, ?_⟩
    have := fixL_skip (T.drop start) [] (fun c hc => by
      have hc' : c ∈ (T.drop start).take (T.length - start) := by rwa [List.take_of_length_le (by rw [List.length_drop]; exact Nat.le_refl _)]
      obtain ⟨j, a, b, rfl⟩ := mem_seg hc'
      exact h2 j a b)
    simpa [fixL] using this

/-- the first pattern: does a row begin at i -/
def beg (T : List Nat) (i : Nat) : Bool := i == 0 || T.getD (i - 1) 0 == 10
theorem dot_iff (T : List Nat) (i : Nat) : Dot T.toArray i ↔ (i < T.length ∧ T.getD i 0 = 46 ∧ beg T i = true) := by
  unfold Dot beg
  simp only [getD_list, List.size_toArray, Bool.or_eq_true, beq_iff_eq]

theorem dotL_seg (T : List Nat) : ∀ (n a : Nat), a + n ≤ T.length → (∀ j, a ≤ j → j < a + n → ¬ (T.getD j 0 = 46 ∧ beg T j = true)) → dotL (beg T a) (T.drop a) = (T.drop a).take n ++ dotL (beg T (a + n)) (T.drop (a + n)) := by
  intro n
  induction n with
  | zero => intro a _ _; simp
  | succ n ih =>
    intro a h hno
    rw [drop_get T (by omega : a < T.length), dotL, if_neg (fun q => hno a (Nat.le_refl _) (by omega) ⟨q.2, q.1⟩)]
    have e : (T.getD a 0 == 10) = beg T (a + 1) := by simp [beg]
    rw [e, ih (a + 1) (by omega) (fun j x y => hno j (by omega) (by omega)), List.take_succ_cons, List.cons_append, show a + 1 + n = a + (n + 1) by omega]

theorem dotL_len : ∀ (r : List Nat) (b : Bool), (dotL b r).length ≤ 2 * r.length
  | [], _ => Nat.le_refl _
  | c :: r, b => by
    have h1 := dotL_len r false
    have h2 := dotL_len r (c == 10)
    rw [dotL]
    split <;> simp only [List.length_cons] <;> omega

theorem subs1 (T : List Nat) (hT : T.length ≤ 2 ^ 20) : Subs code1 T [46, 46] (fun i => dotL (beg T i) (T.drop i)) := by
  refine ⟨fun start hs => ?_⟩
  have hs' : start ≤ T.toArray.size := by simpa using hs
  rcases search1 hs' (by rw [List.size_toArray]; omega) with ⟨i, h1, h2, h3, h4⟩ | ⟨h1, h2⟩
  · right
    simp only [dot_iff] at h3 h4
    refine ⟨i, i + 1, h1, h2, by omega, h3.1, ?_⟩
    have key := dotL_seg T (i - start) start (by omega) (fun j a b q => h4 j a (by omega) ⟨by omega, q.1, q.2⟩)
    rw [show start + (i - start) = i by omega] at key
    show dotL (beg T start) (T.drop start) = _
    rw [key, drop_get T h3.1, dotL, if_pos ⟨h3.2.2, h3.2.1⟩]
    have e : beg T (i + 1) = false := by
      have := h3.2.1
      simp only [List.getD_eq_getElem?_getD] at this
      simp [beg, this]
    rw [e]
    simp
  · left
    simp only [dot_iff] at h2
    refine ⟨h1, ?_⟩
    have key := dotL_seg T (T.length - start) start (by omega) (fun j a b q => h2 j a ⟨by omega, q.1, q.2⟩)
    show dotL (beg T start) (T.drop start) = _
    rw [key, show start + (T.length - start) = T.length by omega, List.drop_of_length_le (Nat.le_refl _), List.take_of_length_le (by rw [List.length_drop]; exact Nat.le_refl _)]
    simp [dotL]

theorem sub2_gives {w : World} {A : Around} {s : Shared} {p : Addr} {T : List Nat} {t1 t2 : Tok} (hp : IsPat s.heap p code2) (hT : T.length ≤ 2 ^ 20) :
    Gives w A (call (.builtin "re.Pattern.sub") [.ref p, .str (S [13, 10]) t1, .str (S T) t2]) s (fun v objs => objs = [] ∧ ∃ t, v = .str (S (fixL T)) t) := by
  have := sub_gives (w := w) (A := A) (t1 := t1) (t2 := t2) hp (subs2 T) hT (by have := fixL_len _ (T.drop 0) (Nat.le_refl _); simp at this ⊢; omega) (by simp [S])
  simpa using this
theorem sub1_gives {w : World} {A : Around} {s : Shared} {p : Addr} {T : List Nat} {t1 t2 : Tok} (hp : IsPat s.heap p code1) (hT : T.length ≤ 2 ^ 20) :
    Gives w A (call (.builtin "re.Pattern.sub") [.ref p, .str (S [46, 46]) t1, .str (S T) t2]) s (fun v objs => objs = [] ∧ ∃ t, v = .str (S (dotL true T)) t) := by
  have := sub_gives (w := w) (A := A) (t1 := t1) (t2 := t2) hp (subs1 T hT) hT (by have := dotL_len (T.drop 0) (beg T 0); simp at this ⊢; omega) (by simp [S])
  simpa [beg] using this
end Mine
end

section
open PySem PySem.W PySem.Calls PyProof.Rows
set_option maxRecDepth 100000
set_option linter.unusedVariables false
namespace Mine
set_option maxHeartbeats 4000000

/-- an iterator: its object turn by turn -/
structure Itr (w : World) (A : Around) (I : Addr) (c : String) (It : Nat → Obj → Prop) (n : Nat) (P : Nat → Value → Prop) (side : Heap → Prop) : Prop where
  cls : ∀ i o, It i o → o.cls = .type c
  fields : ∀ i o, It i o → ∃ vs, o.data = .fields vs
  item : ∀ i o (s : Shared) (Q : Option Value → Shared → Prop) (E : Value → Shared → Prop), i < n → s.heap.get? I = some o → It i o → side s.heap →
    (∀ v h' tk o', P i v → h'.get? I = some o' → It (i + 1) o' → Heap.SameBut I s.heap h' → Q (some v) { s with heap := h', toks := tk }) → wpAny (MM w) A (pyNext (.ref I)) Q E s
  done : ∀ o (s : Shared) (Q : Option Value → Shared → Prop) (E : Value → Shared → Prop), s.heap.get? I = some o → It n o → side s.heap →
    (∀ h', Heap.ExtBut I s.heap h' → Q none { s with heap := h' }) → wpAny (MM w) A (pyNext (.ref I)) Q E s
  self : ∀ i o (s : Shared) (Q : Value → Shared → Prop) (E : Value → Shared → Prop), s.heap.get? I = some o → It i o → Q (.ref I) s → wpAny (MM w) A (pyIter (.ref I)) Q E s

def rit (x left step : Int) : Obj := { cls := .type "range_iterator", dict := none, data := .fields #[rawInt x, rawInt left, rawInt step], slots := #[] }
def rng (a b c : Int) (t u v : Tok) : Obj := { cls := .type "range", dict := none, data := .fields #[.int a t, .int b u, .int c v], slots := #[] }
def lit (l : Addr) : Obj := { cls := .type "list_iterator", data := .fields #[.ref l, .int 0 0] }

theorem Itr.range {w : World} {A : Around} (hh : A.handled = none) (I : Addr) (a c : Int) (n : Nat) :
    Itr w A I "range_iterator" (fun i o => o = rit (a + (i : Int) * c) ((n : Int) - i) c) n (fun i v => ∃ t, v = .int (a + (i : Int) * c) t) (fun _ => True) where
  cls := fun i o h => by rw [h]; rfl
  fields := fun i o h => by rw [h]; exact ⟨_, rfl⟩
  item := fun i o s Q E hi ho hit _ hQ => by
    subst hit
    refine wpAny_pyNext_range_item ho (by omega) fun h' hit' hs' => ?_
    refine hQ _ h' _ _ ⟨_, rfl⟩ hit' ?_ hs'
    have hx : a + (i : Int) * c + c = a + ((i + 1 : Nat) : Int) * c := by rw [Int.natCast_succ, Int.add_mul, Int.one_mul, ← Int.add_assoc]
    have hy : (n : Int) - i - 1 = (n : Int) - ((i + 1 : Nat) : Int) := by omega
    show rit _ _ c = _
    rw [hx, hy]
  done := fun o s Q E ho hit _ hQ => by
    subst hit
    exact wpAny_pyNext_range_end hh ho (by omega) fun h' he' => hQ h' he'
  self := fun i o s Q E ho hit hQ => by
    subst hit
    exact wpAny_pyIter_rangeiter ho hQ

theorem Itr.list {w : World} {A : Around} (hh : A.handled = none) (I ax : Addr) (vs : List Value) :
    Itr w A I "list_iterator" (fun i o => o.cls = .type "list_iterator" ∧ o.data = .fields #[.ref ax, .int i 0]) vs.length (fun i v => vs[i]? = some v) (fun h => h.IsList ax vs.toArray) where
  cls := fun i o h => h.1
  fields := fun i o h => ⟨_, h.2⟩
  item := fun i o s Q E hi ho hit hl hQ => by
    refine wpAny_pyNext_list_item (l := ax) (i := i) ⟨o, ho, hit⟩ hl (x := vs[i]) (by simp [hi]) fun h' hit' hs' => ?_
    obtain ⟨o', ho', hc', hd'⟩ := hit'
    exact hQ _ h' _ o' (List.getElem?_eq_getElem hi) ho' ⟨hc', hd'⟩ hs'
  done := fun o s Q E ho hit hl hQ => wpAny_pyNext_list_end hh (l := ax) (i := vs.length) ⟨o, ho, hit⟩ hl (by simp) fun h' he' => hQ h' he'
  self := fun i o s Q E ho hit hQ => wpAny_pyIter_listiter (l := ax) (i := i) ⟨o, ho, hit⟩ hQ

section
variable {w : World} {A : Around} {E : Value → Shared → Prop} {s₀ s : Shared} {env : Env} {m cm : Str → Option Value} {news : Led}

theorem Act.setHead {s' : Shared} {I : Addr} {o o' : Obj} (X : Act s₀ env m cm ((I, o) :: news) s) {h' : Heap} {tk : Nat} (e : s' = { s with heap := h', toks := tk }) (ho : h'.get? I = some o') (hs : Heap.SameBut I s.heap h') :
    Act s₀ env m cm ((I, o') :: news) s' := by
  subst e
  have q := X.news _ (.head _)
  have neI : ∀ p ∈ news, p.1 ≠ I := fun p hp e => (List.nodup_cons.mp X.nodup).1 (by show I ∈ _; rw [← e]; exact List.mem_map_of_mem hp)
  obtain ⟨h₁, tk₁, rfl⟩ := X.same
  refine ⟨⟨h', tk, rfl⟩, X.ns.sameBut hs (Ne.symm q.2.2.1), fun b ob e => ?_, X.fresh, fun n c hc => (X.cell n c hc).sameBut hs (q.2.2.2 n c hc), X.apart, X.off, fun p hp => ?_, X.nodup⟩
  · refine hs.extBut b ob (fun e' => ?_) (X.keep b ob e)
    have h1 := q.2.1
    rw [← e'] at h1; rw [e] at h1; cases h1
  · rcases List.mem_cons.mp hp with rfl | hp
    · exact ⟨ho, q.2⟩
    · have r := X.news p (.tail _ hp)
      exact ⟨(hs.2 p.1 (neI p hp)).trans r.1, r.2⟩

theorem Act.dropHead {s' : Shared} {I : Addr} {o : Obj} (X : Act s₀ env m cm ((I, o) :: news) s) {h' : Heap} {tk : Nat} (e : s' = { s with heap := h', toks := tk }) (hs : Heap.ExtBut I s.heap h') :
    Act s₀ env m cm news s' := by
  subst e
  have q := X.news _ (.head _)
  have neI : ∀ p ∈ news, p.1 ≠ I := fun p hp e => (List.nodup_cons.mp X.nodup).1 (by show I ∈ _; rw [← e]; exact List.mem_map_of_mem hp)
  obtain ⟨h₁, tk₁, rfl⟩ := X.same
  refine ⟨⟨h', tk, rfl⟩, X.ns.extBut hs (Ne.symm q.2.2.1), fun b ob e => ?_, X.fresh, fun n c hc => ?_, X.apart, X.off, fun p hp => ?_, (List.nodup_cons.mp X.nodup).2⟩
  · refine hs b ob (fun e' => ?_) (X.keep b ob e)
    have h1 := q.2.1
    rw [← e'] at h1; rw [e] at h1; cases h1
  · obtain ⟨oc, hoc, hd⟩ := X.cell n c hc
    exact ⟨oc, hs c oc (q.2.2.2 n c hc) hoc, hd⟩
  · have r := X.news p (.tail _ hp)
    exact ⟨hs p.1 p.2 (neI p hp) r.1, r.2⟩

/-- a new object onto the ledger -/
theorem Act.alloc {s' : Shared} {o : Obj} {tk : Nat} (X : Act s₀ env m cm news s) (e : s' = { s with heap := s.heap.push o, toks := tk }) (hf : o.isFreed = false) : Act s₀ env m cm ((s.heap.objs.size, o) :: news) s' := by
  refine X.grow (objs := [(s.heap.objs.size, o)]) ⟨_, tk, e, fun b o e => Heap.get?_push_of_some _ e⟩ ?_
  subst e
  exact NewIn.one (Heap.get?_push_size _ hf) (get_none_of_le (Nat.le_refl _))

theorem b_range1 {n : Int} {t : Tok} {Q : Value → Shared → Prop} (X : Act s₀ env m cm news s) (h : ∀ r s' u v, Act s₀ env m cm ((r, rng 0 n 1 u t v) :: news) s' → Q (.ref r) s') :
    wpAny (MM w) A (call (.type "range") [.int n t]) Q E s := call_range_1 (h _ _ _ _ (X.alloc rfl rfl))
theorem b_range3 {a b c : Int} {t u v : Tok} {Q : Value → Shared → Prop} (X : Act s₀ env m cm news s) (hc : 0 < c) (hc2 : c < 1073741824) (h : ∀ r s', Act s₀ env m cm ((r, rng a b c t u v) :: news) s' → Q (.ref r) s') :
    wpAny (MM w) A (call (.type "range") [.int a t, .int b u, .int c v]) Q E s := call_range_3 (by omega) (h _ _ (X.alloc rfl rfl)) (Or.inl (PyProof.noPylong_small (by omega)))
theorem it_range {r : Addr} {a b c : Int} {t u v : Tok} {Q : Value → Shared → Prop} (X : Act s₀ env m cm news s) (hr : s.heap.get? r = some (rng a b c t u v)) (hsm : Builtin.Range.small a b c = true)
    (h : ∀ I s', Act s₀ env m cm ((I, rit a (Builtin.Range.rangeSize a b c) c) :: news) s' → Q (.ref I) s') : wpAny (MM w) A (pyIter (.ref r)) Q E s :=
  wpAny_pyIter_range hr hsm (h _ _ (X.alloc (tk := s.toks) rfl rfl))
theorem it_range1 {r : Addr} {n : Nat} {t u v : Tok} {Q : Value → Shared → Prop} (X : Act s₀ env m cm news s) (hr : s.heap.get? r = some (rng 0 n 1 t u v)) (hn : n < 2 ^ 60)
    (h : ∀ I s', Act s₀ env m cm ((I, rit 0 n 1) :: news) s' → Q (.ref I) s') : wpAny (MM w) A (pyIter (.ref r)) Q E s := by
  refine it_range X hr (small_one (by decide) (by decide) (by omega) (by omega)) fun I s' X' => h I s' ?_
  rw [rangeSize_one] at X'
  have : (if (0 : Int) < n then (n : Int) - 0 else 0) = n := by split <;> omega
  rw [this] at X'
  exact X'
theorem it_list {l : Addr} {vs : List Value} {Q : Value → Shared → Prop} (X : Act s₀ env m cm news s) (hl : s.heap.IsList l vs.toArray) (h : ∀ I s', Act s₀ env m cm ((I, lit l) :: news) s' → Q (.ref I) s') :
    wpAny (MM w) A (pyIter (.ref l)) Q E s := wpAny_pyIter_list hl (h _ _ (X.alloc (tk := s.toks) rfl rfl))

theorem own_tuple {target : PySem.Expr} {I : Addr} {o : Obj} {c : String} {vs : Array Value} {v : Value} {Q : Unit → Shared → Prop} (ho : s.heap.get? I = some o) (hc : o.cls = .type c) (hd : o.data = .fields vs)
    (hn : (["enumerate", "zip", "dict_itemiterator", "dict_reverseitemiterator", "odict_iterator", "itertools.zip_longest", "itertools.pairwise"] : List String).contains c = false) (h : Q () s) : wpAny (MM w) A (letOwnedTupleGo target (.ref I) v) Q E s := by
  have main : wpAny (MM w) A (letOwnedTupleGo (.Tuple [] 0 default) (.ref I) v) Q E s := by
    unfold letOwnedTupleGo
    cases v with
    | ref a =>
      dsimp only
      refine wpAny_bind (wpAny_load ho ?_)
      rw [hc, hd]
      dsimp only
      rw [hn]
      simp only [Bool.false_and, Bool.false_eq_true, if_false]
      exact wpAny_pure h
    | _ => exact wpAny_pure h
  cases target <;> first | exact wpAny_pure h | exact main

theorem for_rule {target : PySem.Expr} {body : List Stmt} {I : Addr} {c : String} {It : Nat → Obj → Prop} {n : Nat} {P : Nat → Value → Prop} {side : Heap → Prop} {o : Obj} {R : Result → Shared → Prop} {Q : Flow → Shared → Prop}
    (W : Itr w A I c It n P side) (hn : (["enumerate", "zip", "dict_itemiterator", "dict_reverseitemiterator", "odict_iterator", "itertools.zip_longest", "itertools.pairwise"] : List String).contains c = false)
    (Inv : Nat → (Str → Option Value) → (Str → Option Value) → Led → Prop)
    (hside : ∀ i m cm rest s o, Inv i m cm rest → Act s₀ env m cm ((I, o) :: rest) s → side s.heap)
    (hR : ∀ f s, Q f s → R (.ok f) s)
    (h0 : Inv 0 m cm news) (ho : It 0 o) (X : Act s₀ env m cm ((I, o) :: news) s)
    (turn : ∀ i m cm rest s o v E', i < n → Inv i m cm rest → P i v → It (i + 1) o → Act s₀ env m cm ((I, o) :: rest) s →
      wpAny (MM w) A (assign target env v) (fun _ s₂ => wpAny (MM w) A (execs body env) (fun f s₃ => match f with
        | .next | .cont => ∃ m' cm' rest', Inv (i + 1) m' cm' rest' ∧ Act s₀ env m' cm' ((I, o) :: rest') s₃
        | .brk => Q .next s₃
        | .ret v => Q (.ret v) s₃) E' s₂) E' s)
    (hend : ∀ m cm rest s, Inv n m cm rest → Act s₀ env m cm rest s → Q .next s) :
    codeAny (MM w) A (.forLoop target (.ref I) body [] env) R s := by
  refine codeAny_forLoop_any (fun k s' => ∃ i m cm rest o, i ≤ n ∧ k = n + 1 - i ∧ Inv i m cm rest ∧ It i o ∧ Act s₀ env m cm ((I, o) :: rest) s') ?_ (n + 1) ⟨0, m, cm, news, o, Nat.zero_le _, rfl, h0, ho, X⟩
  rintro k s' ⟨i, m, cm, rest, o, hi, rfl, hinv, hit, X⟩
  rcases Nat.lt_or_ge i n with hlt | hge
  · refine W.item i o s' _ _ hlt (X.get (.head _)) hit (hside _ _ _ _ _ _ hinv X) fun v h' tk o' hP ho' hit' hs' => ?_
    have X' := X.setHead rfl ho' hs' (tk := tk)
    obtain ⟨vs, hd⟩ := W.fields _ _ hit'
    refine own_tuple (X'.get (.head _)) (W.cls _ _ hit') hd hn ?_
    refine wpAny_mono (turn i m cm rest _ o' v _ hlt hinv hP hit' X') (fun _ s₂ h₂ => wpAny_mono h₂ (fun f s₃ h₃ => ?_) fun _ _ e => e) fun _ _ e => e
    cases f with
    | next => obtain ⟨m', cm', rest', a, b⟩ := h₃; exact ⟨n + 1 - (i + 1), by omega, i + 1, m', cm', rest', o', hlt, rfl, a, hit', b⟩
    | cont => obtain ⟨m', cm', rest', a, b⟩ := h₃; exact ⟨n + 1 - (i + 1), by omega, i + 1, m', cm', rest', o', hlt, rfl, a, hit', b⟩
    | brk => exact hR _ _ h₃
    | ret v => exact hR _ _ h₃
  · have : i = n := by omega
    subst this
    refine W.done o s' _ _ (X.get (.head _)) hit (hside _ _ _ _ _ _ hinv X) fun h' hs' => ?_
    exact wpAny_execs_nil (hR _ _ (hend m cm rest _ hinv (X.dropHead (tk := s'.toks) rfl hs')))

theorem x_for {target iter : PySem.Expr} {body : List Stmt} {pos : Pos} {rest : List Stmt} {Q : Flow → Shared → Prop}
    (h : wpAny (MM w) A (eval iter env) (fun x s₁ => wpAny (MM w) A (pyIter x) (fun it s₂ =>
      codeAny (MM w) A (.forLoop target it body [] env) (fun r s' => match r with | .ok f => (match f with | .next => wpAny (MM w) A (execs rest env) Q E s' | f => Q f s') | .error e => cameBackBy (MM w) A env E e s') s₂) E s₁) E s)
    (hs : ∀ x, foldedSetIterable iter env x = pure x) :
    wpAny (MM w) A (execs (.For target iter body [] pos :: rest) env) Q E s := by
  refine wpAny_execs_cons (wpAny_For (wpAny_mono h (fun x s₁ h₁ => wpAny_mono h₁ (fun it s₂ h₂ => ?_) fun _ _ e => e) fun _ _ e => e) hs)
  refine codeAny_mono h₂ fun r s' hr => ?_
  cases r with
  | ok f => cases f <;> exact hr
  | error e => exact hr

/-- a call of a def of the text -/
theorem c_def {pos : Pos} {f : Addr} {e : PySem.Expr} {rest : List PySem.Expr} {Q : Value → Shared → Prop} (X : Act s₀ env m cm news s) (G : Gl w s₀.heap) (hk : keepIn (KK w) (.ref f) = true)
    (h : wpAny (MM w) A (spliced (backTo pos (starEach (e :: rest) env))) (fun vs s₁ => (KK w).In s₁.heap ∧ wpAny (MM w) A (call (.ref f) vs) Q E s₁) E s)
    (he : starEach (e :: rest) env = (false, eval e env) :: starEach rest env) (hplain : (backTo pos (starEach rest env)).any (·.1) = false) :
    wpAny (MM w) A (callWith pos (.ref f) [] (backTo pos (starEach (e :: rest) env)) []) Q E s := callWith_K G.K hk h he hplain
theorem c_type {pos : Pos} {T : String} {e : PySem.Expr} {rest : List PySem.Expr} {Q : Value → Shared → Prop}
    (h : wpAny (MM w) A (spliced (backTo pos (starEach (e :: rest) env))) (fun vs s₁ => wpAny (MM w) A (call (.type T) vs) Q E s₁) E s)
    (he : starEach (e :: rest) env = (false, eval e env) :: starEach rest env) (hplain : (backTo pos (starEach rest env)).any (·.1) = false) :
    wpAny (MM w) A (callWith pos (.type T) [] (backTo pos (starEach (e :: rest) env)) []) Q E s := PyProof.Rows.callWith_type1 h he hplain
theorem a_name {x : Str} {pos : Pos} {v : Value} {Q : Unit → Shared → Prop} (h : wpAny (MM w) A (storeName env x v) Q E s) : wpAny (MM w) A (assign (.Name x pos) env v) Q E s := wpAny_assign_Name h
end
end Mine
end

section
open PySem PySem.W PySem.Calls PyProof.Rows
set_option maxRecDepth 100000
set_option linter.unusedVariables false
namespace Mine
set_option maxHeartbeats 4000000

/-- what a comprehension has made of its items so far -/
inductive Outs (P : Value → Value → Led → Prop) (N : Value → Prop) : List Value → List Value → Led → Prop
  | nil : Outs P N [] [] []
  | keep {vs ys o v y o'} : Outs P N vs ys o → P v y o' → Outs P N (vs ++ [v]) (ys ++ [y]) (o' ++ o)
  | skip {vs ys o v} : Outs P N vs ys o → N v → Outs P N (vs ++ [v]) ys o
theorem Outs.len {P : Value → Value → Led → Prop} {N : Value → Prop} {vs ys : List Value} {o : Led} (h : Outs P N vs ys o) : ys.length ≤ vs.length := by
  induction h with
  | nil => exact Nat.le_refl _
  | keep _ _ ih => simp; exact ih
  | skip _ _ ih => simp; omega

section
variable {w : World} {A : Around} {s₁ : Shared} {cenv : Env}

/-- the tests of a clause -/
abbrev tests (ifs : List PySem.Expr) (env : Env) : Sem Bool :=
  forIn ifs true fun c r => if r = true then do let ok ← isTrue c env (eval c env); pure (ForInStep.yield ok) else pure (ForInStep.yield r)

theorem app_lst {E : Value → Shared → Prop} {s : Shared} {a : Addr} {vs : List Value} {k : Nat} {v : Value} {Q : Value → Shared → Prop} (ho : s.heap.get? a = some (lst vs k)) (hz : vs.length ≤ 2 ^ 23)
    (h : ∀ h', h'.get? a = some (lst (vs ++ [v]) (k + 1)) → Heap.SameBut a s.heap h' → Q .none { s with heap := h' }) : wpAny (MM w) A (call (.builtin "list.append") [.ref a, v]) Q E s := by
  have e24 : sizeLine = 2 ^ 24 := rfl
  refine wpAny_call_entry slot_list_append ⟨_, ho, rfl⟩ entry_list_append ?_ (args_list_append _ _)
  show wpAny _ _ (updateSeq a (·.push v) >>= fun _ => ret .none) _ _ s
  refine wpAny_bind (wpAny_updateSeq ho rfl (wpAny_pure ⟨.none, rfl, h _ ?_ (Heap.SameBut.update ..)⟩) (by rw [List.size_toArray, e24]; omega) (by rw [Array.size_push, List.size_toArray, e24]; omega))
  rw [Heap.get?_update_self _ ho rfl]
  simp [Obj.mapSeq, lst]

end

section
variable {w : World} {A : Around} {s₁ : Shared} {cenv : Env}

theorem comp_loop {elt target iter : PySem.Expr} {ifs : List PySem.Expr} {scope : Scope} {pos : Pos} {I D : Addr} {c : String} {It : Nat → Obj → Prop} {n : Nat} {Pi : Nat → Value → Prop} {side : Heap → Prop} {o : Obj} {R : Result → Shared → Prop}
    {P : Value → Value → Led → Prop} {N : Value → Prop} {s : Shared} {m cm : Str → Option Value} {J : (Str → Option Value) → Prop}
    (W : Itr w A I c It n Pi side) (hn : (["enumerate", "zip", "dict_itemiterator", "dict_reverseitemiterator", "odict_iterator", "itertools.zip_longest", "itertools.pairwise"] : List String).contains c = false)
    (hside : ∀ h, s₁.heap.StaysIn h → side h) (hsz : n ≤ 2 ^ 22)
    (ho : It 0 o) (hJ : J cm) (X : Act s₁ cenv m cm [(I, o), (D, lst [] 0)] s)
    (body : ∀ i v s m cm led E', i < n → Pi i v → J cm → Act s₁ cenv m cm led s →
      wpAny (MM w) A (assign target cenv v) (fun _ s₂ => wpAny (MM w) A (tests ifs cenv) (fun ok s₃ =>
        if ok = true then wpAny (MM w) A (eval elt cenv) (fun y s₄ => ∃ new m' cm', P v y new ∧ J cm' ∧ Act s₁ cenv m' cm' (new ++ led) s₄) E' s₃
        else N v ∧ ∃ m' cm', J cm' ∧ Act s₁ cenv m' cm' led s₃) E' s₂) E' s)
    (hR : ∀ vs ys objs k m cm s, vs.length = n → (∀ (i : Nat) v, vs[i]? = some v → Pi i v) → Outs P N vs ys objs → Act s₁ cenv m cm ((D, lst ys k) :: objs) s → R (.ok .next) s) :
    codeAny (MM w) A (.compLoop (.ListComp elt [⟨target, iter, ifs, 0⟩] scope pos) 0 (.ref I) (.ref D) cenv) R s := by
  refine codeAny_loop rfl (fun k s' => ∃ (vs ys : List Value) (objs : Led) (kk : Nat) (m cm : Str → Option Value) (o : Obj), vs.length ≤ n ∧ k = n + 1 - vs.length ∧ (∀ (i : Nat) v, vs[i]? = some v → Pi i v) ∧ Outs P N vs ys objs ∧ J cm ∧ It vs.length o ∧ Act s₁ cenv m cm ((I, o) :: (D, lst ys kk) :: objs) s')
    (fun k s' hI => ?_) (n + 1) ⟨[], [], [], 0, m, cm, o, Nat.zero_le _, rfl, (fun i v e => by simp at e), .nil, hJ, ho, X⟩
  obtain ⟨vs, ys, objs, kk, m, cm, o, hle, rfl, hvs, hout, hJ, hit, X⟩ := hI
  show wpAny _ A ((compTurn (.ListComp elt [⟨target, iter, ifs, 0⟩] scope pos) 0 (.ref I) (.ref D) cenv).onRaise (fun x => do noteFrame x cenv; theTreesLotGoes x)) _ _ s'
  refine wpAny_noted ?_
  rw [compTurn_list]
  refine wpAny_bind (wpAny_standAt (wpAny_bind ?_))
  rcases Nat.lt_or_ge vs.length n with hlt | hge
  · refine W.item vs.length o s' _ _ hlt (X.get (.head _)) hit (hside _ X.keep) fun v h' tk o' hP ho' hit' hs' => ?_
    have X' := X.setHead rfl ho' hs' (tk := tk)
    obtain ⟨fs, hd⟩ := W.fields _ _ hit'
    refine wpAny_bind (own_tuple (X'.get (.head _)) (W.cls _ _ hit') hd hn ?_)
    have hvs' : ∀ (i : Nat) u, (vs ++ [v])[i]? = some u → Pi i u := fun j u hj => by
      rcases Nat.lt_trichotomy j vs.length with h | h | h
      · exact hvs j u (by rwa [List.getElem?_append_left h] at hj)
      · subst h; simp at hj; subst hj; exact hP
      · have hnone : (vs ++ [v])[j]? = none := List.getElem?_eq_none (by rw [List.length_append, List.length_singleton]; omega)
        rw [hnone] at hj; cases hj
    refine wpAny_bind (wpAny_mono (body vs.length v _ m cm _ _ hlt hP hJ X') (fun _ s₂ h₂ => wpAny_bind (wpAny_mono h₂ (fun ok s₃ h₃ => ?_) fun _ _ e => e)) fun _ _ e => e)
    cases ok with
    | false =>
      simp only [Bool.false_eq_true, if_false] at h₃ ⊢
      obtain ⟨hN, m', cm', hJ', Y⟩ := h₃
      refine wpAny_pure ⟨rfl, n + 1 - (vs ++ [v]).length, by simp; omega, vs ++ [v], ys, objs, kk, m', cm', o', by simp; omega, rfl, hvs', .skip hout hN, hJ', by simpa using hit', Y⟩
    | true =>
      simp only [if_true] at h₃ ⊢
      refine wpAny_bind (wpAny_bind (wpAny_mono h₃ (fun y s₄ h₄ => ?_) fun _ _ e => e))
      obtain ⟨new, m', cm', hPy, hJ', Y⟩ := h₄
      have hlen := hout.len
      have Y1 : Act s₁ cenv m' cm' ((D, lst ys kk) :: (I, o') :: (new ++ objs)) s₄ := Y.perm (by
        refine (List.perm_middle (a := (I, o')) (l₁ := new) (l₂ := (D, lst ys kk) :: objs)).trans ?_
        refine (List.Perm.cons _ (List.perm_middle (a := (D, lst ys kk)) (l₁ := new) (l₂ := objs))).trans ?_
        exact List.Perm.swap _ _ _)
      refine wpAny_bind (app_lst (Y1.get (.head _)) (by omega) fun h'' hg hs => ?_)
      have Y2 := Y1.setHead (tk := s₄.toks) rfl hg hs
      have Y3 := Y2.perm (List.Perm.swap (I, o') (D, lst (ys ++ [y]) (kk + 1)) (new ++ objs))
      refine wpAny_pure (wpAny_pure ⟨rfl, n + 1 - (vs ++ [v]).length, by simp; omega, vs ++ [v], ys ++ [y], new ++ objs, kk + 1, m', cm', o', by simp; omega, rfl, hvs', .keep hout hPy, hJ', by simpa using hit', Y3⟩)
  · have he : vs.length = n := by omega
    rw [he] at hit
    refine W.done o s' _ _ (X.get (.head _)) hit (hside _ X.keep) fun h' hs' => ?_
    exact wpAny_pure (hR vs ys objs kk m cm _ he hvs hout (X.dropHead (tk := s'.toks) rfl hs'))
end
end Mine
end

section
open PySem PySem.W PySem.Calls PyProof.Rows
set_option maxRecDepth 100000
set_option linter.unusedVariables false
namespace Mine
set_option maxHeartbeats 4000000

abbrev badIts : List String := ["enumerate", "zip", "dict_itemiterator", "dict_reverseitemiterator", "odict_iterator", "itertools.zip_longest", "itertools.pairwise"]

/-- what may be walked -/
def Src (w : World) (A : Around) (xv : Value) (s₁ : Shared) (n : Nat) (Pi : Nat → Value → Prop) : Prop :=
  ∀ (Q : Value → Shared → Prop) (E : Value → Shared → Prop), (∀ o c It side, Itr w A s₁.heap.objs.size c It n Pi side → It 0 o → badIts.contains c = false → (∀ h, s₁.heap.StaysIn h → side h) → o.isFreed = false → Q (.ref s₁.heap.objs.size) { s₁ with heap := s₁.heap.push o }) →
    wpAny (MM w) A (pyIter xv) Q E s₁

theorem Src.list {w : World} {A : Around} {s₁ : Shared} {l : Addr} {vs : List Value} (hh : A.handled = none) (hl : s₁.heap.IsList l vs.toArray) : Src w A (.ref l) s₁ vs.length (fun i v => vs[i]? = some v) := fun Q E h =>
  wpAny_pyIter_list hl (h (lit l) "list_iterator" _ _ (Itr.list hh _ l vs) ⟨rfl, rfl⟩ (by decide) (fun h' st => stays_list st hl) rfl)
theorem Src.range {w : World} {A : Around} {s₁ : Shared} {r : Addr} {a b c : Int} {t u v : Tok} {n : Nat} (hh : A.handled = none) (hr : s₁.heap.get? r = some (rng a b c t u v)) (hsm : Builtin.Range.small a b c = true) (hn : Builtin.Range.rangeSize a b c = n) :
    Src w A (.ref r) s₁ n (fun i v => ∃ t, v = .int (a + (i : Int) * c) t) := fun Q E h =>
  wpAny_pyIter_range hr hsm (h (rit a (Builtin.Range.rangeSize a b c) c) "range_iterator" _ _ (Itr.range hh _ a c n) (by rw [hn]; simp) (by decide) (fun h' st => trivial) rfl)
theorem Src.range1 {w : World} {A : Around} {s₁ : Shared} {r : Addr} {t u v : Tok} {n : Nat} (hh : A.handled = none) (hr : s₁.heap.get? r = some (rng 0 n 1 t u v)) (hn : n < 2 ^ 60) :
    Src w A (.ref r) s₁ n (fun i v => ∃ t, v = .int (i : Int) t) := by
  have h := Src.range (w := w) (n := n) hh hr (small_one (by decide) (by decide) (by omega) (by omega)) (by rw [rangeSize_one]; split <;> omega)
  simpa using h

theorem cellsFrom_none : ∀ (names : List (Str × NameKind)) (n : Nat) (acc : List (Str × Addr)), (names.all fun x => x.2 != .cell) = true → cellsFrom n names acc = acc
  | [], _, _, _ => rfl
  | (x, k) :: r, n, acc, h => by
    rw [List.all_cons, Bool.and_eq_true] at h
    have hk : (k == NameKind.cell) = false := by simpa using h.1
    unfold cellsFrom
    rw [hk]
    exact cellsFrom_none r n acc h.2
theorem pushCells_none : ∀ (names : List (Str × NameKind)) (h : Heap), (names.all fun x => x.2 != .cell) = true → pushCells h names = h
  | [], _, _ => rfl
  | (x, k) :: r, h, e => by
    rw [List.all_cons, Bool.and_eq_true] at e
    have hk : (k == NameKind.cell) = false := by simpa using e.1
    unfold pushCells
    rw [hk]
    exact pushCells_none r h e.2

section
variable {w : World} {A : Around} {E : Value → Shared → Prop} {s : Shared} {env : Env}

def cenvOf (scope : Scope) (cl : List (Str × Addr)) (C : Addr) (env : Env) : Env :=
  { scope := relabel scope env, locals := C, globals := env.globals, cells := cellsFrom (C + 1) scope.names cl, qual := env.qual, func := none, code := env.code, frame := env.frame, builtins := env.builtins }

theorem comp_env {scope : Scope} {cl : List (Str × Addr)} {Q : Env → Shared → Prop}
    (h : Q { scope, locals := s.heap.objs.size, globals := env.globals, cells := cellsFrom (s.heap.objs.size + 1) scope.names cl, qual := env.qual, func := none, code := env.code, frame := env.frame, builtins := env.builtins }
      { s with heap := pushCells (s.heap.push { cls := .type "dict", data := .dict #[] }) scope.names }) :
    wpAny (MM w) A (newFunctionEnv scope env.globals cl [] env.qual none .none (some env)) Q E s := by
  simp only [newFunctionEnv, Option.isSome_some, if_true]
  refine wpAny_bind (wpAny_alloc ?_)
  refine wpAny_bind (wpAny_layCells _ (fun name kind cells => by cases hkc : kind == NameKind.cell <;> simp) _ _ _ _ ?_)
  rw [show ({ s with heap := s.heap.push { cls := .type "dict", data := .dict #[] } } : Shared).heap.objs.size = s.heap.objs.size + 1 from Heap.size_push ..]
  exact wpAny_bind (wpAny_pure (wpAny_pure h))

/-- the block of a comprehension, from its source on -/
theorem comp_block {elt target iter : PySem.Expr} {ifs : List PySem.Expr} {scope : Scope} {pos : Pos} {cl : List (Str × Addr)} {xv : Value} {s₁ : Shared} {n : Nat} {Pi : Nat → Value → Prop} {P : Value → Value → Led → Prop} {N : Value → Prop}
    {cm₀ : Str → Option Value} {J : (Str → Option Value) → Prop} {RR : Value → Addr → Result → Shared → Prop}
    (hsrc : Src w A xv s₁ n Pi) (hsz : n ≤ 2 ^ 22)
    (hcells : ∀ (C : Addr) (h : Heap), s₁.heap.StaysIn h → s₁.heap.objs.size ≤ C → h.objs.size = C → (∀ n c, (cenvOf scope cl C env).cells.lookup n = some c → (pushCells (h.push { cls := .type "dict", data := .dict #[] }) scope.names).IsCell c (cm₀ n) ∧ c ≠ C ∧ (c < s₁.heap.objs.size ∨ C < c)) ∧
      (cenvOf scope cl C env).cells.Pairwise fun x y => x.2 ≠ y.2)
    (hJ : J cm₀)
    (body : ∀ C i v s m cm led E', s₁.heap.objs.size ≤ C → i < n → Pi i v → J cm → Act s₁ (cenvOf scope cl C env) m cm led s →
      wpAny (MM w) A (assign target (cenvOf scope cl C env) v) (fun _ s₂ => wpAny (MM w) A (tests ifs (cenvOf scope cl C env)) (fun ok s₃ =>
        if ok = true then wpAny (MM w) A (eval elt (cenvOf scope cl C env)) (fun y s₄ => ∃ new m' cm', P v y new ∧ J cm' ∧ Act s₁ (cenvOf scope cl C env) m' cm' (new ++ led) s₄) E' s₃
        else N v ∧ ∃ m' cm', J cm' ∧ Act s₁ (cenvOf scope cl C env) m' cm' led s₃) E' s₂) E' s)
    (hR : ∀ C D vs ys objs k m cm s, s₁.heap.objs.size ≤ C → vs.length = n → (∀ (i : Nat) v, vs[i]? = some v → Pi i v) → Outs P N vs ys objs → Act s₁ (cenvOf scope cl C env) m cm ((D, lst ys k) :: objs) s → RR (.ref D) C (.ok .next) s) :
    wpAny (MM w) A (pyIter xv) (fun it s₂ => wpAny (MM w) A (newList []) (fun acc s₃ => wpAny (MM w) A (newFunctionEnv scope env.globals cl [] env.qual none .none (some env)) (fun cenv s₄ =>
      codeAny (MM w) A (.compStart (.ListComp elt [⟨target, iter, ifs, 0⟩] scope pos) 0 it acc { cenv with scope := relabel scope env }) (RR acc cenv.locals) s₄) E s₃) E s₂) E s₁ := by
  refine hsrc _ _ fun o c It side W hit hbad hside hfr => ?_
  refine wpAny_newList ?_ (by decide)
  refine comp_env ?_
  dsimp only
  generalize hH1 : s₁.heap.push o = H1
  have e1 : H1.objs.size = s₁.heap.objs.size + 1 := by rw [← hH1, Heap.size_push]
  generalize hH2 : H1.push { cls := .type "list", data := .seq ([] : List Value).toArray } = H2
  have e2 : H2.objs.size = s₁.heap.objs.size + 2 := by rw [← hH2, Heap.size_push, e1]
  have st1 : s₁.heap.StaysIn H1 := fun b ob e => by rw [← hH1]; exact Heap.get?_push_of_some _ e
  have st2 : H1.StaysIn H2 := fun b ob e => by rw [← hH2]; exact Heap.get?_push_of_some _ e
  have st12 : s₁.heap.StaysIn H2 := fun b ob e => st2 b ob (st1 b ob e)
  obtain ⟨hc1, hc2⟩ := hcells H2.objs.size H2 st12 (by omega) rfl
  have X : Act s₁ (cenvOf scope cl H2.objs.size env) (fun _ => none) cm₀ [(s₁.heap.objs.size, o), (H1.objs.size, lst [] 0)] { s₁ with heap := pushCells (H2.push { cls := .type "dict", data := .dict #[] }) scope.names } := by
    have gI : H1.get? s₁.heap.objs.size = some o := by rw [← hH1]; exact Heap.get?_push_size _ hfr
    have gD : H2.get? H1.objs.size = some (lst [] 0) := by rw [← hH2]; exact Heap.get?_push_size _ rfl
    have st3 : H2.StaysIn (pushCells (H2.push { cls := .type "dict", data := .dict #[] }) scope.names) := fun b ob e => pushCells_keeps _ _ b ob (Heap.get?_push_of_some _ e)
    refine ⟨⟨_, s₁.toks, rfl⟩, (Heap.Ns.new H2 (.type "dict")).keeps (pushCells_keeps _ _), fun b ob e => st3 b ob (st12 b ob e), (by show _ ≤ H2.objs.size; omega), fun n c hc => (hc1 n c hc).1, hc2, fun n c hc => (hc1 n c hc).2.1, fun p hp => ?_, ?_⟩
    · rcases List.mem_cons.mp hp with rfl | hp
      · refine ⟨st3 _ _ (st2 _ _ gI), get_none_of_le (Nat.le_refl _), (by show s₁.heap.objs.size ≠ H2.objs.size; omega), fun n c hc => ?_⟩
        rcases (hc1 n c hc).2.2 with q | q
        · exact Nat.ne_of_lt q
        · exact Nat.ne_of_gt (Nat.lt_of_le_of_lt (by omega : s₁.heap.objs.size ≤ H2.objs.size) q)
      · rcases List.mem_cons.mp hp with rfl | hp
        · refine ⟨st3 _ _ gD, get_none_of_le (by show _ ≤ H1.objs.size; omega), (by show H1.objs.size ≠ H2.objs.size; omega), fun n c hc => ?_⟩
          rcases (hc1 n c hc).2.2 with q | q
          · exact Nat.ne_of_lt (Nat.lt_of_lt_of_le q (by omega : s₁.heap.objs.size ≤ H1.objs.size))
          · exact Nat.ne_of_gt (Nat.lt_of_le_of_lt (by omega : H1.objs.size ≤ H2.objs.size) q)
        · cases hp
    · have ne : s₁.heap.objs.size ≠ H1.objs.size := by omega
      simpa using ne
  have loop := comp_loop (elt := elt) (target := target) (iter := iter) (ifs := ifs) (scope := scope) (pos := pos) (R := RR (.ref H1.objs.size) H2.objs.size) W hbad hside hsz hit hJ X
    (fun i v s m cm led E' a b c d => body H2.objs.size i v s m cm led E' (by omega) a b c d)
    (fun vs ys objs k m cm s a b c d => hR H2.objs.size H1.objs.size vs ys objs k m cm s (by omega) a b c d)
  exact codeAny_compStart_list loop (W.self 0 o _ _ _ (X.get (.head _)) hit loop)
end
end Mine
end

section
open PySem PySem.W PySem.Calls PyProof.Rows
set_option maxRecDepth 100000
set_option linter.unusedVariables false
namespace Mine
set_option maxHeartbeats 4000000

section
variable {w : World} {A : Around} {E : Value → Shared → Prop} {s₀ s s₁ : Shared} {env : Env} {m cm : Str → Option Value} {news : Led}

theorem Act.other {C : Addr} {h' : Heap} (X : Act s₀ env m cm news s) (hC0 : s₀.heap.get? C = none) (hCl : C ≠ env.locals) (hCc : ∀ n c, env.cells.lookup n = some c → c ≠ C) (hCn : ∀ p ∈ news, p.1 ≠ C) (hs : Heap.SameBut C s.heap h') :
    Act s₀ env m cm news { s with heap := h' } := by
  obtain ⟨h₁, tk₁, rfl⟩ := X.same
  refine ⟨⟨h', tk₁, rfl⟩, X.ns.sameBut hs (Ne.symm hCl), fun b ob e => ?_, X.fresh, fun n c hc => (X.cell n c hc).sameBut hs (hCc n c hc), X.apart, X.off, fun p hp => ?_, X.nodup⟩
  · refine hs.extBut b ob (fun e' => ?_) (X.keep b ob e)
    rw [e', hC0] at e; cases e
  · have r := X.news p hp
    exact ⟨(hs.2 p.1 (hCn p hp)).trans r.1, r.2⟩

abbrev Cells (s₁ : Shared) (scope : Scope) (cl : List (Str × Addr)) (env : Env) (cm₀ : Str → Option Value) : Prop :=
  ∀ (C : Addr) (h : Heap), s₁.heap.StaysIn h → s₁.heap.objs.size ≤ C → h.objs.size = C → (∀ n c, (cenvOf scope cl C env).cells.lookup n = some c → (pushCells (h.push { cls := .type "dict", data := .dict #[] }) scope.names).IsCell c (cm₀ n) ∧ c ≠ C ∧ (c < s₁.heap.objs.size ∨ C < c)) ∧
      (cenvOf scope cl C env).cells.Pairwise fun x y => x.2 ≠ y.2

abbrev Is (c : Str → Option Value) (x : Str → Option Value) : Prop := x = c
theorem am0 {α : Type} {P : α → Prop} : ∀ x ∈ ([] : List α), P x := fun _ h => nomatch h
theorem am1 {α : Type} {P : α → Prop} {a : α} (h : P a) : ∀ x ∈ [a], P x := List.forall_mem_cons.mpr ⟨h, am0⟩
theorem am2 {α : Type} {P : α → Prop} {a b : α} (h : P a) (h2 : P b) : ∀ x ∈ [a, b], P x := List.forall_mem_cons.mpr ⟨h, am1 h2⟩
theorem am3 {α : Type} {P : α → Prop} {a b c : α} (h : P a) (h2 : P b) (h3 : P c) : ∀ x ∈ [a, b, c], P x := List.forall_mem_cons.mpr ⟨h, am2 h2 h3⟩

theorem nd_of {cl : List (Str × Addr)} {names : List Str} (e : cl.map (·.1) = names) (h : names.Nodup) : (cl.map (·.1)).Nodup := e ▸ h
theorem apart_of {cl : List (Str × Addr)} (X : Act s₀ env m cm news s₁) (hcl : ∀ p ∈ cl, env.cells.lookup p.1 = some p.2) (hnd : (cl.map (·.1)).Nodup) : cl.Pairwise fun x y => x.2 ≠ y.2 := by
  rw [List.nodup_iff_pairwise_ne, List.pairwise_map] at hnd
  refine List.Pairwise.imp_of_mem (fun {a b} ha hb hne e => hne ?_) hnd
  have h1 := mem_of_lookup (hcl a ha)
  have h2 := mem_of_lookup (hcl b hb)
  rw [e] at h1
  exact name_of_addr X.apart h1 h2

theorem cells0 {scope : Scope} {cl : List (Str × Addr)} (X : Act s₀ env m cm news s₁) (hcell : (scope.names.all fun x => x.2 != .cell) = true) (hcl : ∀ p ∈ cl, env.cells.lookup p.1 = some p.2) (hnd : (cl.map (·.1)).Nodup) : Cells s₁ scope cl env cm := by
  intro C h st hC hh
  have e : (cenvOf scope cl C env).cells = cl := cellsFrom_none _ _ _ hcell
  rw [e, pushCells_none _ _ hcell]
  refine ⟨fun n c hc => ?_, apart_of X hcl hnd⟩
  have hx := X.cell n c (hcl _ (mem_of_lookup hc))
  have hlt : c < s₁.heap.objs.size := by obtain ⟨o, ho, _⟩ := hx; exact Heap.lt_size ho
  exact ⟨(hx.keeps st).keeps fun b o e => Heap.get?_push_of_some _ e, Nat.ne_of_lt (Nat.lt_of_lt_of_le hlt hC), .inl hlt⟩

theorem cells2 {scope : Scope} {cl : List (Str × Addr)} {x1 x2 : Str} (X : Act s₀ env m cm news s₁)
    (hcells : ∀ C, (cenvOf scope cl C env).cells = (x2, C + 2) :: (x1, C + 1) :: cl) (hpush : ∀ h, pushCells h scope.names = (h.push { cls := .type "cell", data := .cell none }).push { cls := .type "cell", data := .cell none })
    (hcl : ∀ p ∈ cl, env.cells.lookup p.1 = some p.2) (hnd : (cl.map (·.1)).Nodup) : Cells s₁ scope cl env (fun n => if n = x1 ∨ n = x2 then none else cm n) := by
  have happ := apart_of X hcl hnd
  have hmem : ∀ p ∈ cl, p.2 < s₁.heap.objs.size := fun p hp => by
    obtain ⟨o, ho, _⟩ := X.cell p.1 p.2 (hcl p hp)
    exact Heap.lt_size ho
  intro C h st hC hh
  rw [hcells, hpush]
  refine ⟨fun n c hc => ?_, ?_⟩
  · rw [List.lookup_cons] at hc
    by_cases h2 : n = x2
    · subst h2
      simp at hc
      subst hc
      refine ⟨⟨{ cls := .type "cell", data := .cell none }, ?_, by simp⟩, Nat.ne_of_gt (Nat.lt_add_of_pos_right (by decide)), .inr (Nat.lt_add_of_pos_right (by decide))⟩
      have : C + 2 = ((h.push { cls := .type "dict", data := .dict #[] }).push { cls := .type "cell", data := .cell none }).objs.size := by rw [Heap.size_push, Heap.size_push, hh]
      rw [this]
      exact Heap.get?_push_size _ rfl
    · have hb : (n == x2) = false := by simpa using h2
      rw [hb] at hc
      simp only [] at hc
      rw [List.lookup_cons] at hc
      by_cases h1 : n = x1
      · subst h1
        simp at hc
        subst hc
        refine ⟨⟨{ cls := .type "cell", data := .cell none }, ?_, by simp⟩, Nat.ne_of_gt (Nat.lt_add_of_pos_right (by decide)), .inr (Nat.lt_add_of_pos_right (by decide))⟩
        have : C + 1 = (h.push { cls := .type "dict", data := .dict #[] }).objs.size := by rw [Heap.size_push, hh]
        rw [this]
        exact Heap.get?_push_of_some _ (Heap.get?_push_size _ rfl)
      · have hb : (n == x1) = false := by simpa using h1
        rw [hb] at hc
        simp only [] at hc
        have hc' := hcl _ (mem_of_lookup hc)
        have hx := X.cell n c hc'
        have hlt : c < s₁.heap.objs.size := by obtain ⟨o, ho, _⟩ := hx; exact Heap.lt_size ho
        refine ⟨?_, Nat.ne_of_lt (Nat.lt_of_lt_of_le hlt hC), .inl hlt⟩
        dsimp only
        rw [if_neg (fun q => q.elim h1 h2)]
        exact (hx.keeps st).keeps fun b o e => Heap.get?_push_of_some _ (Heap.get?_push_of_some _ (Heap.get?_push_of_some _ e))
  · refine List.pairwise_cons.mpr ⟨fun y hy => ?_, List.pairwise_cons.mpr ⟨fun y hy => ?_, happ⟩⟩
    · rcases List.mem_cons.mp hy with rfl | hy
      · exact Nat.ne_of_gt (Nat.lt_succ_self (C + 1))
      · exact Nat.ne_of_gt (Nat.lt_of_lt_of_le (hmem y hy) (Nat.le_trans hC (Nat.le_add_right C 2)))
    · exact Nat.ne_of_gt (Nat.lt_of_lt_of_le (hmem y hy) (Nat.le_trans hC (Nat.le_add_right C 1)))

abbrev Body (w : World) (A : Around) (s₁ : Shared) (env : Env) (elt target : PySem.Expr) (ifs : List PySem.Expr) (scope : Scope) (cl : List (Str × Addr)) (n : Nat) (Pi : Nat → Value → Prop) (P : Value → Value → Led → Prop) (N : Value → Prop) (J : (Str → Option Value) → Prop) : Prop :=
  ∀ C i v s m cm led E', s₁.heap.objs.size ≤ C → i < n → Pi i v → J cm → Act s₁ (cenvOf scope cl C env) m cm led s →
      wpAny (MM w) A (assign target (cenvOf scope cl C env) v) (fun _ s₂ => wpAny (MM w) A (tests ifs (cenvOf scope cl C env)) (fun ok s₃ =>
        if ok = true then wpAny (MM w) A (eval elt (cenvOf scope cl C env)) (fun y s₄ => ∃ new m' cm', P v y new ∧ J cm' ∧ Act s₁ (cenvOf scope cl C env) m' cm' (new ++ led) s₄) E' s₃
        else N v ∧ ∃ m' cm', J cm' ∧ Act s₁ (cenvOf scope cl C env) m' cm' led s₃) E' s₂) E' s

/-- a list comprehension as a value -/
theorem lc {elt target iter : PySem.Expr} {ifs : List PySem.Expr} {scope : Scope} {pos : Pos} {cl : List (Str × Addr)} {Q : Value → Shared → Prop} (P : Value → Value → Led → Prop) (N : Value → Prop)
    (hclos : closureFor scope env = pure cl) (hkind : scope.kind = .function) (hnames : (scope.names.all fun x => x.2 != .local || scope.names.lookup x.1 == some .local) = true) (hs : ∀ x, foldedSetIterable iter env x = pure x)
    (h : wpAny (MM w) A (eval iter env) (fun xv s₁ => ∃ (m cm : Str → Option Value) (news : Led) (n : Nat) (Pi : Nat → Value → Prop) (cm₀ : Str → Option Value) (J : (Str → Option Value) → Prop),
      Act s₀ env m cm news s₁ ∧ Src w A xv s₁ n Pi ∧ n ≤ 2 ^ 22 ∧ Cells s₁ scope cl env cm₀ ∧ J cm₀ ∧ Body w A s₁ env elt target ifs scope cl n Pi P N J ∧
      (∀ D vs ys objs k s', vs.length = n → (∀ (i : Nat) v, vs[i]? = some v → Pi i v) → Outs P N vs ys objs → Act s₀ env m cm ((D, lst ys k) :: (objs ++ news)) s' → Q (.ref D) s')) E s) :
    wpAny (MM w) A (eval (.ListComp elt [⟨target, iter, ifs, 0⟩] scope pos) env) Q E s := by
  rw [eval_ListComp]
  refine wpAny_comprehension_free (use := none) rfl hs hclos hkind (fun x hx hl => ?_) (wpAny_mono h (fun xv s₁ h₁ => ?_) fun _ _ e => e)
  · have := List.all_eq_true.mp hnames x hx
    rw [hl] at this
    simpa using this
  obtain ⟨m, cm, news, n, Pi, cm₀, J, X, hsrc, hsz, hcells, hJ, hbody, hpost⟩ := h₁
  refine comp_block (P := P) (N := N) (J := J) hsrc hsz hcells hJ hbody (RR := fun acc C => compPost (MM w) A E none Q acc C) ?_
  intro C D vs ys objs k m₂ cm₂ s₂ hC hlen hPi hout Y
  have hC1 : s₁.heap.get? C = none := get_none_of_le hC
  refine ⟨m₂, Y.ns, fun h' hsb => hpost D vs ys objs k _ hlen hPi hout ?_⟩
  have Z : Act s₀ env m cm (((D, lst ys k) :: objs) ++ news) s₂ := X.grow Y.keeps Y.newIn
  refine Z.other (C := C) ?_ ?_ ?_ ?_ hsb
  · cases e : s₀.heap.get? C with
    | none => rfl
    | some o => rw [X.keep _ _ e] at hC1; cases hC1
  · exact Nat.ne_of_gt (Nat.lt_of_lt_of_le X.ns.lt hC)
  · intro n c hc e
    obtain ⟨o, ho, _⟩ := X.cell n c hc
    rw [e, hC1] at ho; cases ho
  · intro p hp
    rcases List.mem_append.mp hp with hp | hp
    · exact (Y.news p hp).2.2.1
    · intro e
      have := (X.news p hp).1
      rw [e, hC1] at this; cases this

/-- a list comprehension stored into a local name -/
theorem lcA {elt target iter : PySem.Expr} {ifs : List PySem.Expr} {scope : Scope} {pos spos py : Pos} {y : Str} {rest : List Stmt} {cl : List (Str × Addr)} {Q : Flow → Shared → Prop} (P : Value → Value → Led → Prop) (N : Value → Prop)
    (hsw : swapsWith (.ListComp elt [⟨target, iter, ifs, 0⟩] scope pos) (some (.Name y py)) spos.line env = pure true) (hy : env.kindOf y = some .local) (hek : env.scope.kind = .function)
    (hclos : closureFor scope env = pure cl) (hkind : scope.kind = .function) (hnames : (scope.names.all fun x => x.2 != .local || scope.names.lookup x.1 == some .local) = true) (hs : ∀ x, foldedSetIterable iter env x = pure x)
    (h : wpAny (MM w) A (eval iter env) (fun xv s₁ => ∃ (m cm : Str → Option Value) (news : Led) (n : Nat) (Pi : Nat → Value → Prop) (cm₀ : Str → Option Value) (J : (Str → Option Value) → Prop),
      Act s₀ env m cm news s₁ ∧ Src w A xv s₁ n Pi ∧ n ≤ 2 ^ 22 ∧ Cells s₁ scope cl env cm₀ ∧ J cm₀ ∧ Body w A s₁ env elt target ifs scope cl n Pi P N J ∧
      (∀ D vs ys objs k s', vs.length = n → (∀ (i : Nat) v, vs[i]? = some v → Pi i v) → Outs P N vs ys objs → Act s₀ env (upd m y (.ref D)) cm ((D, lst ys k) :: (objs ++ news)) s' → wpAny (MM w) A (execs rest env) Q E s')) E s) :
    wpAny (MM w) A (execs (.Assign [.Name y py] (.ListComp elt [⟨target, iter, ifs, 0⟩] scope pos) spos :: rest) env) Q E s := by
  refine wpAny_execs_cons ?_
  rw [exec_Assign_Name_used _ _ _ _ hsw]
  refine wpAny_bind (wpAny_standAt (wpAny_bind ?_))
  show wpAny _ A (do let _ ← comprehension (.ListComp elt [⟨target, iter, ifs, 0⟩] scope pos) scope env _ (newList []) false (eval iter env) (some (assign (.Name y py) env))) _ _ s
  refine wpAny_bind (wpAny_mono (wpAny_comprehension_free (use := some (assign (.Name y py) env)) (Q := fun _ s' => wpAny (MM w) A (execs rest env) Q E s') rfl hs hclos hkind (fun x hx hl => ?_) (wpAny_mono h (fun xv s₁ h₁ => ?_) fun _ _ e => e)) (fun _ _ q => wpAny_pure (wpAny_pure q)) fun _ _ e => e)
  · have := List.all_eq_true.mp hnames x hx
    rw [hl] at this
    simpa using this
  obtain ⟨m, cm, news, n, Pi, cm₀, J, X, hsrc, hsz, hcells, hJ, hbody, hpost⟩ := h₁
  refine comp_block (P := P) (N := N) (J := J) hsrc hsz hcells hJ hbody (RR := fun acc C => compPost (MM w) A E (some (assign (.Name y py) env)) (fun _ s' => wpAny (MM w) A (execs rest env) Q E s') acc C) ?_
  intro C D vs ys objs k m₂ cm₂ s₂ hC hlen hPi hout Y
  have hC1 : s₁.heap.get? C = none := get_none_of_le hC
  have hCl : C ≠ env.locals := Nat.ne_of_gt (Nat.lt_of_lt_of_le X.ns.lt hC)
  have Z : Act s₀ env m cm (((D, lst ys k) :: objs) ++ news) s₂ := X.grow Y.keeps Y.newIn
  show wpAny (MM w) A (assign (.Name y py) env (.ref D)) _ _ s₂
  refine wpAny_assign_Name (wpAny_storeName_local hy Z.ns (fun h' hn hsb => ?_) (by rw [hek]; rfl))
  have Z' : Act s₀ env (upd m y (.ref D)) cm (((D, lst ys k) :: objs) ++ news) { s₂ with heap := h', toks := s₂.toks + 1 } := by
    obtain ⟨h₁, tk, e⟩ := Z.same
    refine ⟨⟨h', s₂.toks + 1, by rw [e]⟩, hn, fun b o e => hsb.extBut b o (Nat.ne_of_lt (Nat.lt_of_lt_of_le (Heap.lt_size e) Z.fresh)) (Z.keep b o e), Z.fresh, fun n c hc => (Z.cell n c hc).sameBut hsb (Z.off n c hc), Z.apart, Z.off, fun p hp => ?_, Z.nodup⟩
    have q := Z.news p hp
    exact ⟨(hsb.2 p.1 q.2.2.1).trans q.1, q.2⟩
  refine ⟨m₂, Y.ns.sameBut hsb hCl, fun h'' hsb'' => hpost D vs ys objs k _ hlen hPi hout ?_⟩
  refine Z'.other (C := C) ?_ hCl ?_ ?_ hsb''
  · cases e : s₀.heap.get? C with
    | none => rfl
    | some o => rw [X.keep _ _ e] at hC1; cases hC1
  · intro n c hc e
    obtain ⟨o, ho, _⟩ := X.cell n c hc
    rw [e, hC1] at ho; cases ho
  · intro p hp
    rcases List.mem_append.mp hp with hp | hp
    · exact (Y.news p hp).2.2.1
    · intro e
      have := (X.news p hp).1
      rw [e, hC1] at this; cases this
end
end Mine
end

section
open PySem PySem.W PySem.Calls PyProof.Rows
set_option maxRecDepth 100000
set_option linter.unusedVariables false
namespace Mine
set_option maxHeartbeats 4000000

theorem sz_le {vs : List Value} (h : decide (vs.length ≤ 100) = true) : vs.length ≤ sizeLine := by
  have := of_decide_eq_true h
  show _ ≤ 2 ^ 24
  omega
theorem le2 {a b c : Nat} : a ≤ a + b + c := by omega

section
variable {w : World} {A : Around} {E : Value → Shared → Prop} {s₀ s : Shared} {env : Env} {m cm : Str → Option Value} {news : Led}

theorem t_nil {P R : Shared → Prop} (h : P s) : wpAny (MM w) A (tests [] env) (fun ok s₃ => if ok = true then P s₃ else R s₃) E s := by
  unfold tests
  rw [List.forIn_nil]
  exact wpAny_pure (by rw [if_pos rfl]; exact h)
theorem t_one {c : PySem.Expr} {P R : Shared → Prop} (h : wpAny (MM w) A (isTrue c env (eval c env)) (fun b s₃ => (b = true → P s₃) ∧ (b = false → R s₃)) E s) : wpAny (MM w) A (tests [c] env) (fun ok s₃ => if ok = true then P s₃ else R s₃) E s := by
  refine wpAny_tests_one (wpAny_mono h (fun b s₃ h₃ => ?_) fun _ _ e => e)
  cases b
  · exact h₃.2 rfl
  · exact h₃.1 rfl

theorem b_sum {l : Addr} {vs : List Value} {Q : Value → Shared → Prop} (X : Act s₀ env m cm news s) (hh : A.handled = none) (hl : s.heap.IsList l vs.toArray) (hv : ∀ v ∈ vs, ∃ z t, v = .int z t)
    (h : ∀ z t s', Act s₀ env m cm news s' → Q (.int z t) s') : wpAny (MM w) A (call (.builtin "sum") [.ref l]) Q E s := by
  obtain ⟨xs, e⟩ := AllInts.items (vs := vs.toArray) fun v hm => hv v (by simpa using hm)
  exact sum_intListG hh (e ▸ hl) fun h' tk t' hk => h _ _ _ (X.grow0 ⟨h', tk, rfl, hk⟩)

theorem e_list {elts : List PySem.Expr} {pos : Pos} {Q : Value → Shared → Prop} (h : wpAny (MM w) A (spliced (backTo pos (starEach elts env))) (fun vs s₁ => wpAny (MM w) A (newList vs) Q E s₁) E s) : wpAny (MM w) A (eval (.List elts pos) env) Q E s := List_ h
end
end Mine
end

section
open PySem PySem.W PySem.Calls PyProof.Rows
set_option maxRecDepth 100000
set_option linter.unusedVariables false
namespace Mine
set_option maxHeartbeats 4000000

def slc (l u st : Value) : Obj := { cls := .type "slice", data := .fields #[l, u, st] }

theorem mul_fold (x : List Nat) : ∀ (n : Nat) (acc : List Nat), (List.replicate n x.toArray).foldl (· ++ ·) acc.toArray = (acc ++ (List.replicate n x).flatten).toArray := by
  intro n
  induction n with
  | zero => intro acc; simp
  | succ n ih =>
    intro acc
    rw [List.replicate_succ, List.foldl_cons]
    have : acc.toArray ++ x.toArray = (acc ++ x).toArray := by simp
    rw [this, ih, List.replicate_succ, List.flatten_cons, List.append_assoc]
theorem mul_S (x : List Nat) (n : Nat) : Txt.mul (S x) (n : Int) = S (List.replicate n x).flatten := by
  unfold Txt.mul
  by_cases h : (n : Int) < 1
  · rw [if_pos h]
    have : n = 0 := by omega
    subst this; rfl
  · rw [if_neg h]
    by_cases h2 : ((n : Int) == 1 || (S x).length == 0) = true
    · rw [if_pos h2]
      rw [S_len] at h2
      simp only [Bool.or_eq_true, beq_iff_eq] at h2
      rcases h2 with h2 | h2
      · have : n = 1 := by omega
        subst this; simp
      · have : x = [] := List.length_eq_zero_iff.mp h2
        subst this
        have : (List.replicate n ([] : List Nat)).flatten = [] := by
          induction n with
          | zero => rfl
          | succ n ih => rw [List.replicate_succ, List.flatten_cons]; simp
        rw [this]
    · rw [if_neg h2]
      have := mul_fold x n []
      show (⟨(List.replicate ((n : Int)).toNat x.toArray).foldl (· ++ ·) ([] : List Nat).toArray⟩ : Str) = _
      rw [show ((n : Int)).toNat = n from rfl, this]
      rfl

theorem Outs.paired {R : Value → Value → Prop} {vs ys : List Value} {objs : Led} (h : Outs (fun v y o => o = [] ∧ R v y) (fun _ => False) vs ys objs) : objs = [] ∧ Paired R vs ys := by
  induction h with
  | nil => exact ⟨rfl, .nil⟩
  | keep _ hp ih =>
    obtain ⟨rfl, h1⟩ := ih
    obtain ⟨rfl, h2⟩ := hp
    exact ⟨rfl, h1.snoc h2⟩
  | skip _ hp _ => exact hp.elim
theorem src_eq {vs ws : List Value} (hl : vs.length = ws.length) (h : ∀ (i : Nat) v, vs[i]? = some v → ws[i]? = some v) : vs = ws := by
  apply List.ext_getElem?
  intro i
  by_cases hi : i < vs.length
  · rw [h i vs[i] (List.getElem?_eq_getElem hi), List.getElem?_eq_getElem hi]
  · rw [List.getElem?_eq_none (by omega), List.getElem?_eq_none (by omega)]
theorem flatten_le {ls : List (List Nat)} {M : Nat} (h : ∀ x ∈ ls, x.length ≤ M) : ls.flatten.length ≤ ls.length * M := by
  induction ls with
  | nil => simp
  | cons x r ih =>
    rw [List.flatten_cons, List.length_append, List.length_cons, Nat.succ_mul]
    have h1 := h x (.head _)
    have h2 := ih fun y hy => h y (.tail _ hy)
    omega
section
variable {w : World} {A : Around} {E : Value → Shared → Prop} {s₀ s : Shared} {env : Env} {m cm : Str → Option Value} {news : Led}

theorem s_mul {x : List Nat} {n : Nat} {t u : Tok} {Q : Value → Shared → Prop} (X : Act s₀ env m cm news s) (hn : n ≤ 2 ^ 10) (hx : x.length ≤ 2 ^ 10) (h : ∀ t s', Act s₀ env m cm news s' → Q (.str (S (List.replicate n x).flatten) t) s') :
    wpAny (MM w) A (binaryOp .Mult (.str (S x) t) (.int (n : Int) u)) Q E s := by
  refine SB.mul ⟨?_, fun h1 h2 => ?_, fun h1 h2 => ?_⟩ fun t' k => ?_
  · have a1 : ¬ (n : Int) < -(2 ^ 63 : Int) := by omega
    have a2 : ¬ (n : Int) ≥ 2 ^ 63 := by omega
    rw [decide_eq_false a1, decide_eq_false a2]; rfl
  · rw [S_len]
    have h3 : (2 ^ 63 - 1 : Int) / (2 ^ 10) ≤ (2 ^ 63 - 1) / (n : Int) := by
      apply Int.le_ediv_of_mul_le (by omega)
      have : (2 ^ 63 - 1 : Int) / 2 ^ 10 * (n : Int) ≤ (2 ^ 63 - 1 : Int) / 2 ^ 10 * 2 ^ 10 := Int.mul_le_mul_of_nonneg_left (by omega) (by decide)
      exact Int.le_trans this (by decide)
    have h4 : (2 ^ 10 : Int) ≤ (2 ^ 63 - 1 : Int) / (2 ^ 10) := by decide
    omega
  · rw [S_len]
    show decide (x.length * ((n : Int)).toNat > sizeLine) = false
    have : x.length * n ≤ 2 ^ 10 * 2 ^ 10 := Nat.mul_le_mul hx hn
    exact decide_eq_false (by show ¬ (x.length * n > 2 ^ 24); omega)
  · rw [mul_S]; exact h _ _ (X.tok _)

theorem i_neg {a : Int} {t : Tok} {Q : Value → Shared → Prop} (X : Act s₀ env m cm news s) (h : ∀ t s', Act s₀ env m cm news s' → Q (.int (-a) t) s') : wpAny (MM w) A (unaryOp .USub (.int a t)) Q E s := PySem.P.neg_int (h _ _ (X.tok _))
theorem l_add {l b : Addr} {vs ws : List Value} {n k : Nat} {Q : Value → Shared → Prop} (X : Act s₀ env m cm news s) (hl : s.heap.get? l = some (lst vs n)) (hb : s.heap.get? b = some (lst ws k)) (hsz : vs.length + ws.length ≤ 2 ^ 24)
    (h : ∀ l s', Act s₀ env m cm ((l, lst (vs ++ ws) 0) :: news) s' → Q (.ref l) s') : wpAny (MM w) A (binaryOp .Add (.ref l) (.ref b)) Q E s := by
  refine concat_meets ⟨_, hl, rfl⟩ ⟨_, hb, rfl⟩ noFill_list_add seq_list_add PySem.F.slot_list_add PySem.F.entry_list_add (PySem.F.args_list_add_2 _ _) (list_addW l b vs.toArray ws.toArray n k none none #[] #[] hsz) ⟨hl, hb, ?_⟩
  rw [List.append_toArray]
  exact h _ _ (X.alloc (o := lst (vs ++ ws) 0) (tk := s.toks) rfl rfl)

theorem e_slice {lower upper step : Option PySem.Expr} {p : Pos} {Q : Value → Shared → Prop}
    (h : wpAny (MM w) A (evalPart lower env) (fun l s₁ => wpAny (MM w) A (evalPart upper env) (fun u s₂ => wpAny (MM w) A (evalPart step env) (fun st s₃ =>
      ∃ m cm news, Act s₀ env m cm news s₃ ∧ ∀ a s', Act s₀ env m cm ((a, slc l u st) :: news) s' → Q (.ref a) s') E s₂) E s₁) E s) :
    wpAny (MM w) A (eval (.Slice lower upper step p) env) Q E s := by
  refine wpAny_Slice (wpAny_mono h (fun l s₁ h₁ => wpAny_mono h₁ (fun u s₂ h₂ => wpAny_mono h₂ (fun st s₃ h₃ => ?_) fun _ _ e => e) fun _ _ e => e) fun _ _ e => e)
  obtain ⟨m, cm, news, X, hq⟩ := h₃
  exact hq _ _ (X.alloc (o := slc l u st) (tk := s₃.toks) rfl rfl)

theorem sub_slice {value slice : PySem.Expr} {l a : Addr} {vs : List Value} {vl vu vk : Value} {lo hi st : Option Int} {ops : List Value} {Q : Value → Shared → Prop} (X : Act s₀ env m cm news s)
    (hl : s.heap.IsList l vs.toArray) (ha : s.heap.get? a = some (slc vl vu vk)) (pl : IsPart vl lo) (pu : IsPart vu hi) (pk : IsPart vk st) (h0 : st ≠ some 0) (hsz : vs.length ≤ 2 ^ 24)
    (h : ∀ l s', Act s₀ env m cm ((l, lst (slicePick vs.toArray lo hi st).toList 0) :: news) s' → Q (.ref l) s')
    (hs : subscripted slice false (.ref l) (.ref a) = operate ops (getItem (.ref l) (.ref a))) :
    wpAny (MM w) A (subscriptTail value slice (.ref l) (.ref a)) Q E s := by
  refine tail_any hl.typeIs slot_list_getitem.lookup (wpAny_getItem_list_slice hl ⟨_, ha, rfl, rfl⟩ pl pu pk h0 ?_ (by rw [List.size_toArray]; exact hsz)) hs
  exact h _ _ (X.alloc (o := lst (slicePick vs.toArray lo hi st).toList 0) (tk := s.toks) (by simp [lst]) rfl)

theorem sub_neg {value slice : PySem.Expr} {l : Addr} {vs : List Value} {k : Int} {u : Tok} {v : Value} {Q : Value → Shared → Prop} (hl : s.heap.IsList l vs.toArray) (h0 : k < 0) (h1 : -(vs.length : Int) ≤ k) (hsz : vs.length < 2 ^ 60) (hx : vs[(k + vs.length).toNat]? = some v) (h : Q v s)
    (hs : subscripted slice false (.ref l) (.int k u) = operate [.ref l, .int k u] (getItem (.ref l) (.int k u)) := by with_unfolding_all rfl) :
    wpAny (MM w) A (subscriptTail value slice (.ref l) (.int k u)) Q E s :=
  tail_any hl.typeIs slot_list_getitem.lookup (wpAny_getItem_list_neg hl h0 (by rw [List.size_toArray]; exact h1) (by omega) (by rw [List.size_toArray]; simpa using hx) h) hs

theorem b_join {l : Addr} {vs : List Value} {ls : List (List Nat)} {x : Str} {t : Tok} {Q : Value → Shared → Prop} (X : Act s₀ env m cm news s) (hx : x = Str.empty) (hl : s.heap.IsList l vs.toArray) (hS : StrsAre vs (ls.map S)) (hsz : ls.flatten.length ≤ 2 ^ 22)
    (h : ∀ t s', Act s₀ env m cm news s' → Q (.str (S ls.flatten) t) s') : wpAny (MM w) A (call (.builtin "str.join") [.str x t, .ref l]) Q E s := by
  subst hx
  refine join_list hl hS (by rw [sum_len_S, show Str.empty.length = 0 from rfl]; omega) fun t' k => ?_
  rw [join_S]
  exact h _ _ (X.tok _)

theorem strs_snoc {vs : List Value} {ss : List Str} {x : Str} {t : Tok} (h : StrsAre vs ss) : StrsAre (vs ++ [.str x t]) (ss ++ [x]) := strsAre_snoc h
end
end Mine
end

section
open PySem PySem.W PySem.Calls PyProof.Rows
set_option maxRecDepth 100000
set_option linter.unusedVariables false
namespace Mine
set_option maxHeartbeats 4000000

theorem le3 {a b c d : Nat} : a ≤ a + b + c + d := by omega
theorem le4 {a b c d e : Nat} : a ≤ a + b + c + d + e := by omega
theorem le5 {a b c d e f : Nat} : a ≤ a + b + c + d + e + f := by omega
theorem le6 {a b c d e f g : Nat} : a ≤ a + b + c + d + e + f + g := by omega
theorem le7 {a b c d e f g h : Nat} : a ≤ a + b + c + d + e + f + g + h := by omega
theorem le8 {a b c d e f g h i : Nat} : a ≤ a + b + c + d + e + f + g + h + i := by omega
section
variable {w : World} {A : Around} {E : Value → Shared → Prop} {s₀ s : Shared} {env : Env} {m cm : Str → Option Value} {news : Led}

theorem un_list {l : Addr} {vs : List Value} {n : Nat} {Q : List Value → Shared → Prop} (X : Act s₀ env m cm news s) (hh : A.handled = none) (hl : s.heap.IsList l vs.toArray) (hn : n = vs.length)
    (h : ∀ s', Act s₀ env m cm news s' → Q vs s') : wpAny (MM w) A (unpackItems (.ref l) n none) Q E s := by
  subst hn
  exact kun_itemsOf (items := vs.toArray) hh hl fun h' he => h _ (X.grow0 ⟨h', s.toks, rfl, fun b o e => he b o (Nat.ne_of_lt (Heap.lt_size e)) e⟩)

theorem ao_cons {t : Value → Sem Unit} {ts : List (Value → Sem Unit)} {x : Value} {xs : List Value} {Q : Unit → Shared → Prop} (h : wpAny (MM w) A (t x) (fun _ s' => wpAny (MM w) A (assignInOrder ts xs) Q E s') E s) :
    wpAny (MM w) A (assignInOrder (t :: ts) (x :: xs)) Q E s := by
  unfold assignInOrder
  exact wpAny_bind (wpAny_holding h)
theorem ao_nil {Q : Unit → Shared → Prop} (h : Q () s) : wpAny (MM w) A (assignInOrder [] []) Q E s := wpAny_pure h

theorem a_two {x y : Str} {p q pos : Pos} {k} {l : Addr} {a b : Value} {Q : Unit → Shared → Prop} (X : Act s₀ env m cm news s) (hh : A.handled = none) (hl : s.heap.IsList l [a, b].toArray)
    (h : ∀ s', Act s₀ env m cm news s' → wpAny (MM w) A (storeName env x a) (fun _ s' => wpAny (MM w) A (storeName env y b) Q E s') E s') :
    wpAny (MM w) A (assign (.Tuple [.Name x p, .Name y q] k pos) env (.ref l)) Q E s := by
  rw [arm_assign_Tuple]
  refine wpAny_bind (wpAny_standAt ?_)
  unfold unpack
  refine wpAny_bind (wpAny_holding (un_list X hh hl rfl fun s' X' => ?_))
  show wpAny _ _ (assignInOrder [assign (.Name x p) env, assign (.Name y q) env] [a, b]) _ _ _
  exact ao_cons (a_name (wpAny_mono (h s' X') (fun _ _ h' => ao_cons (a_name (wpAny_mono h' (fun _ _ q => ao_nil q) fun _ _ e => e))) fun _ _ e => e))
theorem a_three {x y z : Str} {p q r pos : Pos} {k} {l : Addr} {a b c : Value} {Q : Unit → Shared → Prop} (X : Act s₀ env m cm news s) (hh : A.handled = none) (hl : s.heap.IsList l [a, b, c].toArray)
    (h : ∀ s', Act s₀ env m cm news s' → wpAny (MM w) A (storeName env x a) (fun _ s' => wpAny (MM w) A (storeName env y b) (fun _ s' => wpAny (MM w) A (storeName env z c) Q E s') E s') E s') :
    wpAny (MM w) A (assign (.Tuple [.Name x p, .Name y q, .Name z r] k pos) env (.ref l)) Q E s := by
  rw [arm_assign_Tuple]
  refine wpAny_bind (wpAny_standAt ?_)
  unfold unpack
  refine wpAny_bind (wpAny_holding (un_list X hh hl rfl fun s' X' => ?_))
  show wpAny _ _ (assignInOrder [assign (.Name x p) env, assign (.Name y q) env, assign (.Name z r) env] [a, b, c]) _ _ _
  exact ao_cons (a_name (wpAny_mono (h s' X') (fun _ _ h' => ao_cons (a_name (wpAny_mono h' (fun _ _ h' => ao_cons (a_name (wpAny_mono h' (fun _ _ q => ao_nil q) fun _ _ e => e))) fun _ _ e => e))) fun _ _ e => e))

theorem un_tup {vs : List Value} {n : Nat} {Q : List Value → Shared → Prop} (X : Act s₀ env m cm news s) (hh : A.handled = none) (hn : n = vs.length) (hz : vs.length ≤ 100)
    (h : ∀ s', Act s₀ env m cm news s' → Q vs s') : wpAny (MM w) A (newTuple vs) (fun v s₁ => wpAny (MM w) A (unpackItems v n none) Q E s₁) E s := by
  subst hn
  refine wpAny_newTuple ?_ (by show _ ≤ 2 ^ 24; omega)
  have := wpAny_unpackItems_tuple (prog := PySem.Challenge.rw_rs0034_01.row.prog) (w := w) (A := A) (E := E) (s := { s with heap := s.heap.push { cls := .type "tuple", data := .seq vs.toArray } }) (t := s.heap.objs.size) (items := vs.toArray) (Q := Q) hh
    ⟨_, Heap.get?_push_size _ rfl, rfl, _, rfl⟩ ?_
  · rw [List.size_toArray] at this; exact this
  · intro h' he
    refine h _ (X.grow0 ⟨h', s.toks, rfl, fun b o e => he b o ?_ (Heap.get?_push_of_some _ e)⟩)
    rw [Heap.size_push]
    exact Nat.ne_of_lt (Nat.lt_succ_of_lt (Heap.lt_size e))

theorem e_tuple {elts : List PySem.Expr} {k} {pos : Pos} {Q : Value → Shared → Prop} (h : wpAny (MM w) A (spliced (backTo pos (starEach elts env))) (fun vs s₁ => wpAny (MM w) A (newTuple vs) Q E s₁) E s) : wpAny (MM w) A (eval (.Tuple elts k pos) env) Q E s := by
  rw [arm_eval_Tuple]
  exact wpAny_bind (wpAny_standAt (wpAny_bind h))

/-- x, y = (e, f) -/
theorem x_swap2 {x y : Str} {p q tpos vpos pos : Pos} {k k'} {e f : PySem.Expr} {rest : List Stmt} {Q : Flow → Shared → Prop} (hh : A.handled = none)
    (hs : swapsWithSole [.Tuple [.Name x p, .Name y q] k tpos] (.Tuple [e, f] k' vpos) pos.line env = pure false)
    (hw : swappedStores [.Tuple [.Name x p, .Name y q] k tpos] (.Tuple [e, f] k' vpos) env = pure (some [x, y]))
    (h : wpAny (MM w) A (spliced (backTo vpos (starEach [e, f] env))) (fun vs s₁ => ∃ a b m cm news, vs = [a, b] ∧ Act s₀ env m cm news s₁ ∧
      ∀ s', Act s₀ env m cm news s' → wpAny (MM w) A (storeName env y b) (fun _ s' => wpAny (MM w) A (storeName env x a) (fun _ s' => wpAny (MM w) A (execs rest env) Q E s') E s') E s') E s) :
    wpAny (MM w) A (execs (.Assign [.Tuple [.Name x p, .Name y q] k tpos] (.Tuple [e, f] k' vpos) pos :: rest) env) Q E s := by
  refine wpAny_execs_cons (Assign_Tuple_swapped (e_tuple (wpAny_mono h (fun vs s₁ h₁ => ?_) fun _ _ e => e)) hs hw)
  obtain ⟨a, b, m, cm, news, rfl, X, h₁⟩ := h₁
  refine un_tup X hh rfl (by simp) fun s' X' => ?_
  show wpAny _ _ (assignInOrder [bindName env y, bindName env x] [b, a]) _ _ _
  exact ao_cons (bindName_ (wpAny_mono (h₁ s' X') (fun _ _ h' => ao_cons (bindName_ (wpAny_mono h' (fun _ _ q => ao_nil q) fun _ _ e => e))) fun _ _ e => e))
theorem x_swap3 {x y z : Str} {p q r tpos vpos pos : Pos} {k k'} {e f g : PySem.Expr} {rest : List Stmt} {Q : Flow → Shared → Prop} (hh : A.handled = none)
    (hs : swapsWithSole [.Tuple [.Name x p, .Name y q, .Name z r] k tpos] (.Tuple [e, f, g] k' vpos) pos.line env = pure false)
    (hw : swappedStores [.Tuple [.Name x p, .Name y q, .Name z r] k tpos] (.Tuple [e, f, g] k' vpos) env = pure (some [x, y, z]))
    (h : wpAny (MM w) A (spliced (backTo vpos (starEach [e, f, g] env))) (fun vs s₁ => ∃ a b c m cm news, vs = [a, b, c] ∧ Act s₀ env m cm news s₁ ∧
      ∀ s', Act s₀ env m cm news s' → wpAny (MM w) A (storeName env z c) (fun _ s' => wpAny (MM w) A (storeName env y b) (fun _ s' => wpAny (MM w) A (storeName env x a) (fun _ s' => wpAny (MM w) A (execs rest env) Q E s') E s') E s') E s') E s) :
    wpAny (MM w) A (execs (.Assign [.Tuple [.Name x p, .Name y q, .Name z r] k tpos] (.Tuple [e, f, g] k' vpos) pos :: rest) env) Q E s := by
  refine wpAny_execs_cons (Assign_Tuple_swapped (e_tuple (wpAny_mono h (fun vs s₁ h₁ => ?_) fun _ _ e => e)) hs hw)
  obtain ⟨a, b, c, m, cm, news, rfl, X, h₁⟩ := h₁
  refine un_tup X hh rfl (by simp) fun s' X' => ?_
  show wpAny _ _ (assignInOrder [bindName env z, bindName env y, bindName env x] [c, b, a]) _ _ _
  exact ao_cons (bindName_ (wpAny_mono (h₁ s' X') (fun _ _ h' => ao_cons (bindName_ (wpAny_mono h' (fun _ _ h' => ao_cons (bindName_ (wpAny_mono h' (fun _ _ q => ao_nil q) fun _ _ e => e))) fun _ _ e => e))) fun _ _ e => e))
theorem x_tup5 {x1 x2 x3 x4 x5 : Str} {p1 p2 p3 p4 p5 tpos vpos pos : Pos} {k k'} {e1 e2 e3 e4 e5 : PySem.Expr} {rest : List Stmt} {Q : Flow → Shared → Prop} (hh : A.handled = none)
    (hs : swapsWithSole [.Tuple [.Name x1 p1, .Name x2 p2, .Name x3 p3, .Name x4 p4, .Name x5 p5] k tpos] (.Tuple [e1, e2, e3, e4, e5] k' vpos) pos.line env = pure false)
    (hw : swappedStores [.Tuple [.Name x1 p1, .Name x2 p2, .Name x3 p3, .Name x4 p4, .Name x5 p5] k tpos] (.Tuple [e1, e2, e3, e4, e5] k' vpos) env = pure none)
    (h : wpAny (MM w) A (spliced (backTo vpos (starEach [e1, e2, e3, e4, e5] env))) (fun vs s₁ => ∃ a1 a2 a3 a4 a5 m cm news, vs = [a1, a2, a3, a4, a5] ∧ Act s₀ env m cm news s₁ ∧
      ∀ s', Act s₀ env m cm news s' → wpAny (MM w) A (storeName env x1 a1) (fun _ s' => wpAny (MM w) A (storeName env x2 a2) (fun _ s' => wpAny (MM w) A (storeName env x3 a3) (fun _ s' => wpAny (MM w) A (storeName env x4 a4) (fun _ s' => wpAny (MM w) A (storeName env x5 a5) (fun _ s' => wpAny (MM w) A (execs rest env) Q E s') E s') E s') E s') E s') E s') E s) :
    wpAny (MM w) A (execs (.Assign [.Tuple [.Name x1 p1, .Name x2 p2, .Name x3 p3, .Name x4 p4, .Name x5 p5] k tpos] (.Tuple [e1, e2, e3, e4, e5] k' vpos) pos :: rest) env) Q E s := by
  refine wpAny_execs_cons (Assign_Tuple (e_tuple (wpAny_mono h (fun vs s₁ h₁ => ?_) fun _ _ e => e)) hs hw)
  obtain ⟨a1, a2, a3, a4, a5, m, cm, news, rfl, X, h₁⟩ := h₁
  refine wpAny_mono (un_tup (n := 5) X hh rfl (by simp) (Q := fun vs s' => vs = [a1, a2, a3, a4, a5] ∧ Act s₀ env m cm news s') fun s' X' => ⟨rfl, X'⟩) (fun v s' h' => ?_) fun _ _ e => e
  rw [arm_assign_Tuple]
  refine wpAny_bind (wpAny_standAt ?_)
  unfold unpack
  refine wpAny_bind (wpAny_holding (wpAny_mono h' (fun vs s' h'' => ?_) fun _ _ e => e))
  obtain ⟨rfl, X'⟩ := h''
  show wpAny _ _ (assignInOrder [assign (.Name x1 p1) env, assign (.Name x2 p2) env, assign (.Name x3 p3) env, assign (.Name x4 p4) env, assign (.Name x5 p5) env] [a1, a2, a3, a4, a5]) _ _ _
  exact ao_cons (a_name (wpAny_mono (h₁ s' X') (fun _ _ h' => ao_cons (a_name (wpAny_mono h' (fun _ _ h' => ao_cons (a_name (wpAny_mono h' (fun _ _ h' => ao_cons (a_name (wpAny_mono h' (fun _ _ h' => ao_cons (a_name (wpAny_mono h' (fun _ _ q => ao_nil q) fun _ _ e => e))) fun _ _ e => e))) fun _ _ e => e))) fun _ _ e => e))) fun _ _ e => e))

/-- while -/
theorem x_while {test : PySem.Expr} {body : List Stmt} {pos : Pos} {rest : List Stmt} {Q : Flow → Shared → Prop} (Inv : Nat → (Str → Option Value) → (Str → Option Value) → Led → Prop) {n : Nat} (h0 : Inv n m cm news) (X : Act s₀ env m cm news s)
    (turn : ∀ n m cm news s E', Inv n m cm news → Act s₀ env m cm news s → wpAny (MM w) A (isTrue test env (eval test env)) (fun b s₂ =>
      (b = true → wpAny (MM w) A (execs body env) (fun f s₃ => match f with
          | .next | .cont => ∃ n' m' cm' news', n' < n ∧ Inv n' m' cm' news' ∧ Act s₀ env m' cm' news' s₃
          | .brk => wpAny (MM w) A (execs rest env) Q E s₃
          | .ret v => Q (.ret v) s₃) E' s₂) ∧
      (b = false → wpAny (MM w) A (execs rest env) Q E s₂)) E' s) :
    wpAny (MM w) A (execs (.While test body [] pos :: rest) env) Q E s := by
  refine wpAny_execs_cons (wpAny_While (codeAny_whileLoop (fun n s => ∃ m cm news, Inv n m cm news ∧ Act s₀ env m cm news s) (fun n s hI => ?_) n ⟨m, cm, news, h0, X⟩))
  obtain ⟨m, cm, news, hI, X⟩ := hI
  refine wpAny_mono (turn n m cm news s _ hI X) (fun b s₂ h₂ => ?_) fun _ _ e => e
  cases b with
  | true =>
    rw [if_pos rfl]
    refine wpAny_mono (h₂.1 rfl) (fun f s₃ h₃ => ?_) fun _ _ e => e
    cases f with
    | next => obtain ⟨n', m', cm', news', a, b, c⟩ := h₃; exact ⟨n', a, m', cm', news', b, c⟩
    | cont => obtain ⟨n', m', cm', news', a, b, c⟩ := h₃; exact ⟨n', a, m', cm', news', b, c⟩
    | brk => exact h₃
    | ret v => exact h₃
  | false =>
    rw [if_neg (by decide)]
    exact wpAny_execs_nil (h₂.2 rfl)

/-- an expression for its own sake -/
theorem x_expr {e : PySem.Expr} {pos : Pos} {rest : List Stmt} {Q : Flow → Shared → Prop} (h : wpAny (MM w) A (eval e env) (fun _ s' => wpAny (MM w) A (execs rest env) Q E s') E s)
    (hi : interactive env = false) (hs : swapsWith e none pos.line env = pure false) : wpAny (MM w) A (execs (.Expr e pos :: rest) env) Q E s := wpAny_execs_cons (wpAny_Expr_any h hi hs)
theorem g_append {l : Addr} {vs : List Value} {n : Nat} {pl : Sem Bool} {Q : Value × List Value → Shared → Prop} (hl : s.heap.get? l = some (lst vs n)) (h : Q (.builtin "list.append", [.ref l]) s) : wpAny (MM w) A (getMethod (.ref l) "append" pl) Q E s :=
  getMethod_list_append hl rfl rfl h
theorem b_append {l : Addr} {vs : List Value} {n : Nat} {v : Value} {Q : Value → Shared → Prop} (X : Act s₀ env m cm ((l, lst vs n) :: news) s) (hz : vs.length ≤ 2 ^ 20) (h : ∀ s', Act s₀ env m cm ((l, lst (vs ++ [v]) (n + 1)) :: news) s' → Q .none s') :
    wpAny (MM w) A (call (.builtin "list.append") [.ref l, v]) Q E s :=
  app_lst (X.get (.head _)) (by omega) fun h' hg hs => h _ (X.setHead (tk := s.toks) rfl hg hs)

/-- tests -/
theorem t_or {a b : PySem.Expr} {pos : Pos} {whole : Sem Value} {Q : Bool → Shared → Prop}
    (h : wpAny (MM w) A (isTrue a env (eval a env)) (fun c s' => (c = true → Q true s') ∧ (c = false → wpAny (MM w) A (isTrue b env (eval b env)) Q E s')) E s) : wpAny (MM w) A (isTrue (.BoolOp .Or [a, b] pos) env whole) Q E s := by
  refine isTrue_or (wpAny_mono h (fun c s' h' => ?_) fun _ _ e => e)
  cases c with
  | true => rw [if_pos rfl]; exact h'.1 rfl
  | false =>
    rw [if_neg (by decide)]
    refine isTrue_or (wpAny_mono (h'.2 rfl) (fun c s'' h'' => ?_) fun _ _ e => e)
    cases c with
    | true => rw [if_pos rfl]; exact h''
    | false => rw [if_neg (by decide)]; exact isTrue_or_nil h''
theorem t_and {a b : PySem.Expr} {pos : Pos} {whole : Sem Value} {Q : Bool → Shared → Prop}
    (h : wpAny (MM w) A (isTrue a env (eval a env)) (fun c s' => (c = false → Q false s') ∧ (c = true → wpAny (MM w) A (isTrue b env (eval b env)) Q E s')) E s) : wpAny (MM w) A (isTrue (.BoolOp .And [a, b] pos) env whole) Q E s := by
  refine isTrue_and (wpAny_mono h (fun c s' h' => ?_) fun _ _ e => e)
  cases c with
  | false => rw [if_neg (by decide)]; exact h'.1 rfl
  | true =>
    rw [if_pos rfl]
    refine isTrue_and (wpAny_mono (h'.2 rfl) (fun c s'' h'' => ?_) fun _ _ e => e)
    cases c with
    | true => rw [if_pos rfl]; exact isTrue_and_nil h''
    | false => rw [if_neg (by decide)]; exact h''

theorem strs_get {vs : List Value} {ss : List Str} (h : StrsAre vs ss) (j : Nat) (h1 : j < vs.length) : ∃ t, vs[j] = .str (ss.getD j Str.empty) t := by
  obtain ⟨y, t, e, hy⟩ := StrsAre.item h j vs[j] (List.getElem?_eq_getElem h1)
  exact ⟨t, by rw [e, List.getD_eq_getElem?_getD, hy]; rfl⟩
/-- lists of texts, unequal? -/
theorem l_ne {l b : Addr} {vs ws : List Value} {xs ys : List Str} {Q : Value → Shared → Prop} (hu : A.units < cLine) (hl : s.heap.IsList l vs.toArray) (hb : s.heap.IsList b ws.toArray) (hx : StrsAre vs xs) (hy : StrsAre ws ys) (hxy : xs = ys)
    (h : Q (.bool false) s) : wpAny (MM w) A (compareOp .NotEq (.ref l) (.ref b)) Q E s := by
  subst hxy
  have e1 := StrsAre.length hx
  have e2 := StrsAre.length hy
  refine (PySem.SeqAt.RcNeAt.lists (e := fun _ => true) hl hb (by rw [List.size_toArray, List.size_toArray]; omega) hu fun j h1 h2 => ?_) _ w E Q ?_
  · rw [List.size_toArray] at h1 h2
    obtain ⟨t, ht⟩ := strs_get hx j h1
    obtain ⟨u, hu⟩ := strs_get hy j h2
    have := PySem.SeqAt.EqAt.str_str (A := A.in1) (s := s) (xs.getD j Str.empty) t (xs.getD j Str.empty) u
    rw [beq_self_eq_true] at this
    rw [List.getElem_toArray, List.getElem_toArray, ht, hu]
    exact this
  · rw [List.all_eq_true.mpr fun _ _ => rfl]; exact h

theorem b_count {x : Str} {c : Nat} {t u : Tok} {Q : Value → Shared → Prop} (X : Act s₀ env m cm news s) (h : ∀ t s', Act s₀ env m cm news s' → Q (.int (Txt.count x ⟨#[c]⟩) t) s') :
    wpAny (MM w) A (call (.builtin "str.count") [.str x t, .str ⟨#[c]⟩ u]) Q E s := SC.count (h _ _ (X.tok _))
end
end Mine
end

namespace Mine
open PySem PySem.W PySem.Calls PyProof.Rows
local macro_rules | `(tactic| walk_at "X") => `(tactic| with_reducible assumption)
local macro_rules | `(tactic| walk_at "name") => `(tactic| first
  | ((with_reducible refine' n_loc ?X ?hl ?hv ?_ ?hk ?hd); (case X => walk_at "X"); (case hl => exact rfl); (case hv => first | exact rfl | assumption); (case hk => exact rfl); (case hd => decide))
  | ((with_reducible refine' n_cell ?X ?hl ?hc ?hv ?_ ?hk ?hd); (case X => walk_at "X"); (case hl => exact rfl); (case hc => exact rfl); (case hv => first | exact rfl | assumption); (case hk => exact rfl); (case hd => decide))
  | ((with_reducible refine' n_glob ?X ?G ?hl ?e ?_ ?hg ?hk ?hd); (case X => walk_at "X"); (case G => walk_at "X"); (case hl => exact rfl); (case e => exact rfl); (case hg => exact rfl); (case hk => exact rfl); (case hd => decide))
  | ((with_reducible refine' n_blt ?X ?G ?hl ?e ?hv ?_ ?hn ?hg ?hb ?hk ?hd); (case X => walk_at "X"); (case G => walk_at "X"); (case hl => exact rfl); (case e => exact rfl); (case hv => boot_fast); (case hn => decide); (case hg => exact rfl); (case hb => exact rfl); (case hk => exact rfl); (case hd => decide)))
local macro_rules | `(tactic| walk_at "go") => `(tactic| first
  | ((with_reducible refine' x_assign ?_ ?hs); (case hs => exact rfl))
  | with_reducible refine' x_ret ?_
  | ((with_reducible refine' x_for ?_ ?hs); (case hs => intro _; exact rfl))
  | with_reducible refine' a_name ?_
  | with_reducible refine' t_nil ?_
  | with_reducible refine' PySem.evalPart_none_step ?_
  | with_reducible refine' PySem.evalPart_some_step ?_
  | with_reducible refine' PySem.wpAny_UnaryOp ?_
  | ((with_reducible refine' i_neg ?X ?_); (case X => walk_at "X"); intro t s X)
  | with_reducible refine' PySem.GM.join ?_
  | with_reducible refine' e_list ?_
  | ((with_reducible refine' mk_list ?X ?hz ?_); (case X => walk_at "X"); (case hz => exact sz_le rfl); intro l s X)
  | ((with_reducible refine' c_def ?X ?G ?hk ?_ ?he ?hp); (case X => walk_at "X"); (case G => walk_at "X"); (case hk => exact rfl); (case he => exact rfl); (case hp => exact rfl))
  | ((with_reducible refine' c_type ?_ ?he ?hp); (case he => exact rfl); (case hp => exact rfl))
  | with_reducible refine' x_if ?_
  | ((with_reducible refine' PySem.wpAny_isTrue_Compare1 ?_ ?hm); (case hm => with_unfolding_all rfl))
  | with_reducible refine' PySem.wpAny_BinOp ?_
  | ((with_reducible refine' PyProof.Rows.MethodCall_ ?_ ?he); (case he => exact rfl))
  | ((with_reducible refine' PyProof.Rows.Call_ ?_ ?he); (case he => exact rfl))
  | with_reducible refine' PyProof.Rows.Subscript_ ?_
  | ((with_reducible refine' PyProof.Rows.args_cons ?_ ?he); (case he => exact rfl))
  | (with_reducible refine' PyProof.Rows.args_nil ?_)
  | ((with_reducible refine' PyProof.Rows.callWith_method1 ?_ ?he ?hp); (case he => exact rfl); (case hp => exact rfl))
  | ((with_reducible refine' PyProof.Rows.callWith_builtin1 ?_ ?he ?hp); (case he => exact rfl); (case hp => exact rfl))
  | (with_reducible refine' PySem.wpAny_truthy_bool ?_)
  | ((with_reducible show wpAny _ _ (eval (Expr.Name _ _) _) _ _ _); walk_at "name")
  | ((with_reducible refine' st_loc ?X ?hl ?_ ?hk); (case X => walk_at "X"); (case hl => exact rfl); (case hk => exact rfl); intro s X)
  | ((with_reducible refine' st_cell ?X ?hl ?hc ?hf ?_ ?hk); (case X => walk_at "X"); (case hl => exact rfl); (case hc => exact rfl); (case hf => first | exact le2 | exact Nat.le_add_right _ _ | exact le3 | exact le4 | exact le5 | exact le6 | exact le7 | exact le8 | assumption); (case hk => exact rfl); intro s X)
  | ((with_reducible refine' c_int ?X ?_); (case X => walk_at "X"); intro t s X)
  | ((with_reducible refine' c_str ?X ?_); (case X => walk_at "X"); intro t s X)
  | (with_reducible refine' i_eq ?_)
  | ((with_reducible refine' i_add ?X ?_); (case X => walk_at "X"); intro t s X)
  | ((with_reducible refine' i_sub ?X ?_); (case X => walk_at "X"); intro t s X)
  | ((with_reducible refine' i_mod ?X ?hb ?_); (case X => walk_at "X"); (case hb => decide); intro t s X)
  | ((with_reducible refine' i_div ?X ?hb ?hb2 ?_); (case X => walk_at "X"); (case hb => decide); (case hb2 => decide); intro t s X)
  | ((with_reducible refine' i_mulL ?X ?ha ?_); (case X => walk_at "X"); (case ha => decide); intro t s X)
  | ((with_reducible refine' x_expr ?_ ?hi ?hs); (case hi => exact rfl); (case hs => exact rfl))
  | (with_reducible refine' i_gt ?_)
  | (with_reducible refine' i_lt ?_)
  | (with_reducible refine' i_le ?_)
  | (with_reducible refine' s_eq ?_)
  | (with_reducible refine' s_ne ?_)
  | (with_reducible refine' e_ifexp ?_)
  | (with_reducible refine' t_or ?_)
  | (with_reducible refine' t_and ?_)
  | fail "no step"
  )

section
open PySem PySem.W PySem.Calls PyProof.Rows
set_option maxRecDepth 100000
set_option linter.unusedVariables false
set_option maxHeartbeats 2000000



theorem StrsAre.at {vs : List Value} {ss : List Str} (h : StrsAre vs ss) : ∀ (i : Nat) (x : Str), ss[i]? = some x → ∃ t, vs[i]? = some (Value.str x t) := by
  induction h with
  | nil => intro i x e; cases e
  | cons x t r ih =>
    intro i y e
    cases i with
    | zero => cases e; exact ⟨t, rfl⟩
    | succ i => exact ih i y e

theorem median_low_gives {w : World} {A : Around} {s : Shared} (G : Gl w s.heap) (hA : OkA A 1) {l : Addr} {vs : List Value} {ss : List Str} (hl : s.heap.IsList l vs.toArray) (hS : StrsAre vs ss) (h64 : vs.length < 64) (h0 : 0 < vs.length) :
    Gives w A (call (.ref 58) [.ref l]) s (fun v objs => objs = [] ∧ ∃ ss' x t, ss'.Perm ss ∧ sortedS ss' = true ∧ ss'[(ss.length - 1) / 2]? = some x ∧ v = .str x t) := by
  refine enter (binds := [(Str.ofString "data", .ref l)]) G hA rfl rfl rfl rfl rfl rfl rfl rfl ?_
  intro A' s' hA' X
  repeat' walk_at "go"
  refine b_sorted X (stays_list X.keep hl) hS h64 ?_
  intro l' vs' ss' n s1 X hS' hp hs
  have e1 := StrsAre.length hS
  have e2 := StrsAre.length hS'
  have e3 := hp.length_eq
  repeat' walk_at "go"
  rename_i s2 X
  refine b_len X (lst_is (X.get (.head _))) (by omega) ?_
  intro t s3 X
  repeat' walk_at "go"
  rename_i s4 X
  refine ⟨fun h => by simp only [decide_eq_true_eq] at h; omega, fun _ => x_nil ?_⟩
  repeat' walk_at "go"
  refine ⟨fun hh => ?_, fun hh => ?_⟩ <;> simp at hh
  · repeat' walk_at "go"
    rename_i X
    obtain ⟨x, hx⟩ : ∃ x, ss'[(ss.length - 1) / 2]? = some x := ⟨ss'[(ss.length - 1) / 2]'(by omega), List.getElem?_eq_getElem _⟩
    obtain ⟨t', hv⟩ := StrsAre.at hS' _ _ hx
    refine sub_list (lst_is (X.get (.head _))) (by omega) (by omega) (v := .str x t') ?_ ?_
    · rw [← hv]; congr 1; omega
    · exact X.ret ⟨rfl, ss', x, t', hp, hs, hx, rfl⟩ (List.nil_sublist _)
  · repeat' walk_at "go"
    rename_i X
    obtain ⟨x, hx⟩ : ∃ x, ss'[(ss.length - 1) / 2]? = some x := ⟨ss'[(ss.length - 1) / 2]'(by omega), List.getElem?_eq_getElem _⟩
    obtain ⟨t', hv⟩ := StrsAre.at hS' _ _ hx
    refine sub_list (lst_is (X.get (.head _))) (by omega) (by omega) (v := .str x t') ?_ ?_
    · rw [← hv]; congr 1; omega
    · exact X.ret ⟨rfl, ss', x, t', hp, hs, hx, rfl⟩ (List.nil_sublist _)

theorem median_high_gives {w : World} {A : Around} {s : Shared} (G : Gl w s.heap) (hA : OkA A 1) {l : Addr} {vs : List Value} {ss : List Str} (hl : s.heap.IsList l vs.toArray) (hS : StrsAre vs ss) (h64 : vs.length < 64) (h0 : 0 < vs.length) :
    Gives w A (call (.ref 65) [.ref l]) s (fun v objs => objs = [] ∧ ∃ ss' x t, ss'.Perm ss ∧ sortedS ss' = true ∧ ss'[ss.length / 2]? = some x ∧ v = .str x t) := by
  refine enter (binds := [(Str.ofString "data", .ref l)]) G hA rfl rfl rfl rfl rfl rfl rfl rfl ?_
  intro A' s' hA' X
  repeat' walk_at "go"
  refine b_sorted X (stays_list X.keep hl) hS h64 ?_
  intro l' vs' ss' n s1 X hS' hp hs
  have e1 := StrsAre.length hS
  have e2 := StrsAre.length hS'
  have e3 := hp.length_eq
  repeat' walk_at "go"
  rename_i s2 X
  refine b_len X (lst_is (X.get (.head _))) (by omega) ?_
  intro t s3 X
  repeat' walk_at "go"
  rename_i s4 X
  refine ⟨fun h => by simp only [decide_eq_true_eq] at h; omega, fun _ => x_nil ?_⟩
  repeat' walk_at "go"
  rename_i X
  obtain ⟨x, hx⟩ : ∃ x, ss'[ss.length / 2]? = some x := ⟨ss'[ss.length / 2]'(by omega), List.getElem?_eq_getElem _⟩
  obtain ⟨t', hv⟩ := StrsAre.at hS' _ _ hx
  refine sub_list (lst_is (X.get (.head _))) (by omega) (by omega) (v := .str x t') ?_ ?_
  · rw [← hv]; congr 1; omega
  · exact X.ret ⟨rfl, ss', x, t', hp, hs, hx, rfl⟩ (List.nil_sublist _)

theorem median_gives {w : World} {A : Around} {s : Shared} (G : Gl w s.heap) (hA : OkA A 1) {l : Addr} {vs : List Value} {ss : List Str} (hl : s.heap.IsList l vs.toArray) (hS : StrsAre vs ss) (h64 : vs.length < 64) (h0 : vs.length % 2 = 1) :
    Gives w A (call (.ref 51) [.ref l]) s (fun v objs => objs = [] ∧ ∃ ss' x t, ss'.Perm ss ∧ sortedS ss' = true ∧ ss'[ss.length / 2]? = some x ∧ v = .str x t) := by
  refine enter (binds := [(Str.ofString "data", .ref l)]) G hA rfl rfl rfl rfl rfl rfl rfl rfl ?_
  intro A' s' hA' X
  repeat' walk_at "go"
  refine b_sorted X (stays_list X.keep hl) hS h64 ?_
  intro l' vs' ss' n s1 X hS' hp hs
  have e1 := StrsAre.length hS
  have e2 := StrsAre.length hS'
  have e3 := hp.length_eq
  repeat' walk_at "go"
  rename_i s2 X
  refine b_len X (lst_is (X.get (.head _))) (by omega) ?_
  intro t s3 X
  repeat' walk_at "go"
  rename_i s4 X
  refine ⟨fun h => by simp only [decide_eq_true_eq] at h; omega, fun _ => x_nil ?_⟩
  repeat' walk_at "go"
  refine ⟨fun hh => ?_, fun hh => by simp only [decide_eq_false_iff_not] at hh; omega⟩
  repeat' walk_at "go"
  rename_i X
  obtain ⟨x, hx⟩ : ∃ x, ss'[ss.length / 2]? = some x := ⟨ss'[ss.length / 2]'(by omega), List.getElem?_eq_getElem _⟩
  obtain ⟨t', hv⟩ := StrsAre.at hS' _ _ hx
  refine sub_list (lst_is (X.get (.head _))) (by omega) (by omega) (v := .str x t') ?_ ?_
  · rw [← hv]; congr 1; omega
  · exact X.ret ⟨rfl, ss', x, t', hp, hs, hx, rfl⟩ (List.nil_sublist _)
end

section
open PySem PySem.W PySem.Calls PyProof.Rows
set_option maxRecDepth 100000
set_option linter.unusedVariables false
set_option maxHeartbeats 4000000

theorem pat2 {w : World} {h : Heap} (G : Gl w h) : IsPat h 75 code2 := ⟨⟨_, _, _, _, _, _, G.K 75 _ rfl, rfl, rfl, rfl, rfl, rfl, rfl, G.K 74 _ rfl, rfl, by decide +kernel⟩⟩
theorem pat1 {w : World} {h : Heap} (G : Gl w h) : IsPat h 70 code1 := ⟨⟨_, _, _, _, _, _, G.K 70 _ rfl, rfl, rfl, rfl, rfl, rfl, rfl, G.K 69 _ rfl, rfl, by decide +kernel⟩⟩
theorem crlf_S : Str.ofString "\r\n" = S [13, 10] := by decide +kernel
theorem dots_S : Str.ofString ".." = S [46, 46] := by decide +kernel

theorem m_sub {w : World} {A : Around} {E : Value → Shared → Prop} {s : Shared} {p : Addr} {code : Array Nat} {pl : Sem Bool} {Q : Value × List Value → Shared → Prop} (hp : IsPat s.heap p code) (h : Q (.builtin "re.Pattern.sub", [.ref p]) s) :
    wpAny (MM w) A (getMethod (.ref p) (Str.ofString "sub") pl) Q E s := by
  obtain ⟨o, fs, c, oc, items, n, h1, h2, h3, h4, h5, h6, h7, h8, h9, h10⟩ := hp.is
  exact getMethod_builtin ⟨o, h1, h2⟩ plainAttrs_pat slot_sub type_sub (fun a e => by cases e; exact ⟨o, h1, h3⟩) h

theorem fix_gives {w : World} {A : Around} {s : Shared} (G : Gl w s.heap) (hA : OkA A 1) {T : List Nat} {t : Tok} (hT : T.length ≤ 2 ^ 20) :
    Gives w A (call (.ref 89) [.str (S T) t]) s (fun v objs => objs = [] ∧ ∃ t, v = .str (S (fixL T)) t) := by
  refine enter (binds := [(Str.ofString "data", .str (S T) t)]) G hA rfl rfl rfl rfl rfl rfl rfl rfl ?_
  intro A' s' hA' X
  repeat' walk_at "go"
  refine m_sub (pat2 (X.gl G)) ?_
  repeat' walk_at "go"
  refine (sub2_gives (pat2 (X.gl G)) hT).use0 X ?_
  rintro v s1 ⟨t', rfl⟩ X
  exact X.ret ⟨rfl, t', rfl⟩ (List.nil_sublist _)

theorem quote_gives {w : World} {A : Around} {s : Shared} (G : Gl w s.heap) (hA : OkA A 1) {T : List Nat} {t : Tok} (hT : T.length ≤ 2 ^ 19) :
    Gives w A (call (.ref 82) [.str (S T) t]) s (fun v objs => objs = [] ∧ ∃ t, v = .str (S (dotL true (fixL T))) t) := by
  refine enter (binds := [(Str.ofString "data", .str (S T) t)]) G hA rfl rfl rfl rfl rfl rfl rfl rfl ?_
  intro A' s' hA' X
  repeat' walk_at "go"
  refine m_sub (pat1 (X.gl G)) ?_
  repeat' walk_at "go"
  rename_i s1 X
  refine m_sub (pat2 (X.gl G)) ?_
  repeat' walk_at "go"
  refine (sub2_gives (pat2 (X.gl G)) (by omega)).use0 X ?_
  rintro v s2 ⟨t', rfl⟩ X
  repeat' walk_at "go"
  rw [dots_S]
  refine (sub1_gives (pat1 (X.gl G)) ?_).use0 X ?_
  · have := fixL_len _ T (Nat.le_refl _); omega
  rintro v s3 ⟨t', rfl⟩ X
  exact X.ret ⟨rfl, t', rfl⟩ (List.nil_sublist _)
end

section
open PySem PySem.W PySem.Calls PyProof.Rows
set_option maxRecDepth 100000
set_option linter.unusedVariables false
set_option maxHeartbeats 4000000

def quoteL (T : List Nat) : List Nat := dotL true (fixL T)
def quotesL : Nat → List Nat → List Nat
  | 0, T => T
  | n + 1, T => quoteL (quotesL n T)
def timesL (n : Nat) (T : List Nat) : List Nat := if n = 0 then fixL T else quotesL n T
theorem quoteL_len (T : List Nat) : (quoteL T).length ≤ 4 * T.length := by
  have h1 := dotL_len (fixL T) true
  have h2 := fixL_len _ T (Nat.le_refl _)
  unfold quoteL; omega
theorem quotesL_len (n : Nat) (T : List Nat) : (quotesL n T).length ≤ 4 ^ n * T.length := by
  induction n with
  | zero => simp [quotesL]
  | succ n ih =>
    have := quoteL_len (quotesL n T)
    rw [quotesL, Nat.pow_succ, Nat.mul_comm (4 ^ n) 4, Nat.mul_assoc]
    omega

theorem times_gives {w : World} {A : Around} {s : Shared} (G : Gl w s.heap) (hA : OkA A 2) {T : List Nat} {t u : Tok} {n : Nat} (hn : n ≤ 2) (hT : T.length ≤ 2 ^ 12) :
    Gives w A (call (.ref 125) [.str (S T) t, .int n u]) s (fun v objs => objs = [] ∧ ∃ t, v = .str (S (timesL n T)) t) := by
  refine enter (binds := [(Str.ofString "typed", .str (S T) t), (Str.ofString "times", .int n u)]) G hA rfl rfl rfl rfl rfl rfl rfl rfl ?_
  intro A' s' hA' X
  repeat' walk_at "go"
  rename_i s1 X
  refine ⟨fun hz => ?_, fun hz => ?_⟩
  · have hz' : n = 0 := by simpa using hz
    repeat' walk_at "go"
    refine ⟨(X.gl G).K, ?_⟩
    refine (fix_gives (X.gl G) hA' (by omega)).use0 X ?_
    rintro v s2 ⟨t', rfl⟩ X
    exact X.ret ⟨rfl, t', by simp [timesL, hz', flv]⟩ (List.nil_sublist _)
  · have hz' : n ≠ 0 := by simpa using hz
    refine x_nil ?_
    repeat' walk_at "go"
    rename_i s2 X
    refine b_range1 X ?_
    intro r s3 u3 v3 X
    refine it_range1 X (X.get (.head _)) (by omega) ?_
    intro I s4 X
    refine for_rule (Itr.range hA'.handled I 0 1 n) (by decide)
      (fun i m cm rest => (∃ t, m (Str.ofString "text") = some (.str (S (quotesL i T)) t))) (fun _ _ _ _ _ _ _ _ => trivial) (fun f s h => h)
      ⟨t, rfl⟩ (by simp) X ?_ ?_
    · rintro i m cm rest s5 o v E' hi ⟨tt, hm⟩ ⟨tv, rfl⟩ ho X
      repeat' walk_at "go"
      rename_i s6 X
      refine ⟨(X.gl G).K, ?_⟩
      have hl := quotesL_len i T
      have hp : 4 ^ i ≤ 4 ^ 1 := Nat.pow_le_pow_right (by decide) (by omega)
      have hl2 : 4 ^ i * T.length ≤ 4 * 2 ^ 12 := Nat.mul_le_mul (by simpa using hp) hT
      refine (quote_gives (X.gl G) hA' (by omega)).use0 X ?_
      rintro v s7 ⟨t', rfl⟩ X
      repeat' walk_at "go"
      rename_i s8 X
      refine x_nil ?_
      exact ⟨_, _, rest, ⟨t', upd_same _ _ _⟩, X⟩
    · rintro m cm rest s5 ⟨tt, hm⟩ X
      show wpAny _ _ (execs _ _) _ _ _
      repeat' walk_at "go"
      exact X.ret ⟨rfl, tt, by simp [timesL, hz', flv]⟩ (List.nil_sublist _)
end

section
open PySem PySem.W PySem.Calls PyProof.Rows
set_option maxRecDepth 100000
set_option linter.unusedVariables false
set_option maxHeartbeats 4000000


/-- a mail's parts -/
structure Parts (ps : List Nat) : Prop where
  len : ps.length = 2 ∨ ps.length = 4
  one : ∀ p ∈ ps, 1 ≤ p ∧ p ≤ 3
def Ends (e : List Nat) : Prop := e = [13] ∨ e = [10] ∨ e = [13, 10]

def IntsOf (vs : List Value) (ps : List Nat) : Prop := IntsAre vs (ps.map Int.ofNat)

/-- what _law_drawn hands back -/
def Drawn (v : Value) (objs : Led) : Prop := ∃ l p t k pvs ps e, v = .ref l ∧ objs = [(l, lst [.ref p, .str (S e) t] 0), (p, lst pvs k)] ∧ IntsOf pvs ps ∧ Parts ps ∧ Ends e

theorem cr_S : Str.ofString "\r" = S [13] := by decide +kernel
theorem nl_S : Str.ofString "\n" = S [10] := by decide +kernel
theorem crlf_S' : Str.ofString "\r\n" = S [13, 10] := by decide +kernel
theorem ends_at {k : Int} (t1 t2 t3 : Tok) (h0 : 0 ≤ k) (h3 : k < 3) : ∃ x t, Ends x ∧ [Value.str (Str.ofString "\r") t1, Value.str (Str.ofString "\n") t2, Value.str (Str.ofString "\r\n") t3][k.toNat]? = some (.str (S x) t) := by
  have : k = 0 ∨ k = 1 ∨ k = 2 := by omega
  rw [cr_S, nl_S, crlf_S']
  rcases this with rfl | rfl | rfl
  · exact ⟨_, _, .inl rfl, rfl⟩
  · exact ⟨_, _, .inr (.inl rfl), rfl⟩
  · exact ⟨_, _, .inr (.inr rfl), rfl⟩

theorem outs_ints {vs ys : List Value} {objs : Led} (h : Outs (fun v y o => o = [] ∧ ∃ p t, 1 ≤ p ∧ p ≤ 3 ∧ y = .int (Int.ofNat p) t) (fun _ => False) vs ys objs) : objs = [] ∧ ∃ ps : List Nat, IntsOf ys ps ∧ ps.length = vs.length ∧ ∀ p ∈ ps, 1 ≤ p ∧ p ≤ 3 := by
  induction h with
  | nil => exact ⟨rfl, [], .nil, rfl, am0⟩
  | keep _ hp ih =>
    obtain ⟨rfl, ps, h1, h2, h3⟩ := ih
    obtain ⟨rfl, p, tp, hp1, hp2, rfl⟩ := hp
    refine ⟨rfl, ps ++ [p], ?_, by simp [h2], fun q hq => ?_⟩
    · unfold IntsOf at h1 ⊢
      rw [List.map_append]
      exact IntsAre.append h1 (.cons _ _ .nil)
    · rcases List.mem_append.mp hq with hq | hq
      · exact h3 q hq
      · simp at hq; subst hq; exact ⟨hp1, hp2⟩
  | skip _ hp _ => exact hp.elim
theorem outs_any_ints {vs ys : List Value} {objs : Led} (h : Outs (fun v y o => o = [] ∧ ∃ z t, y = .int z t) (fun _ => False) vs ys objs) : ∀ y ∈ ys, ∃ z t, y = .int z t := by
  induction h with
  | nil => intro y hy; cases hy
  | keep _ hp ih =>
    intro y hy
    rcases List.mem_append.mp hy with hy | hy
    · exact ih y hy
    · rcases List.mem_cons.mp hy with rfl | hy
      · exact hp.2
      · cases hy
  | skip _ hp _ => exact hp.elim

theorem drawn_gives {w : World} {A : Around} {s : Shared} (G : Gl w s.heap) (hA : OkA A 2) {start : Int} {t : Tok} {c : Addr} {vs : List Value} (hl : s.heap.IsList c vs.toArray) (hv : ∀ v ∈ vs, ∃ z t, v = .int z t) (hn : vs.length ≤ 1000) :
    Gives w A (call (.ref 94) [.int start t, .ref c]) s Drawn := by
  refine enterC (binds := [(Str.ofString "start", .int start t), (Str.ofString "cells", .ref c)]) G hA rfl rfl rfl rfl rfl rfl rfl ?_
  intro A' s' hA' X
  repeat' walk_at "go"
  refine lc (s₀ := s) (fun v y o => o = [] ∧ ∃ z t, y = .int z t) (fun _ => False) rfl rfl rfl (fun _ => rfl) ?_
  repeat' walk_at "go"
  refine ⟨_, _, _, _, _, _, Is _, X, Src.list hA'.handled (stays_list X.keep hl), by omega, cells0 X rfl am0 .nil, rfl, ?_, ?_⟩
  · intro C i v s1 m cm led E' hC hi hPi hJ X1
    obtain ⟨z, tz, rfl⟩ := hv v (List.mem_of_getElem? hPi)
    repeat' walk_at "go"
    rename_i t2 s2 X2
    exact ⟨[], _, _, ⟨rfl, _, _, rfl⟩, hJ, X2⟩
  intro D vs' ys objs k s1 hlen hPi hout X
  have hys := outs_any_ints hout
  repeat' walk_at "go"
  refine b_sum X hA'.handled (lst_is (X.get (.head _))) hys ?_
  intro z tz s2 X
  iterate 4 walk_at "go"
  rename_i t4 s4 X
  have hv0 : 0 ≤ (start + z) % 1000000 := Int.emod_nonneg _ (by decide)
  have hv1 : (start + z) % 1000000 < 1000000 := Int.emod_lt_of_pos _ (by decide)
  generalize hvv : (start + z) % 1000000 = v at X hv0 hv1 ⊢
  repeat' walk_at "go"
  refine lcA (s₀ := s) (fun v y o => o = [] ∧ ∃ p t, 1 ≤ p ∧ p ≤ 3 ∧ y = .int (Int.ofNat p) t) (fun _ => False) rfl rfl rfl rfl rfl rfl (fun _ => rfl) ?_
  repeat' walk_at "go"
  rename_i s5 X
  obtain ⟨nn, hnn, hnn'⟩ : ∃ nn : Nat, 2 + 2 * (v % 2) = (nn : Int) ∧ (nn = 2 ∨ nn = 4) := ⟨(2 + 2 * (v % 2)).toNat, by omega, by omega⟩
  rw [hnn]
  refine b_range1 X ?_
  intro r s6 u6 v6 X
  refine ⟨_, _, _, _, _, _, Is _, X, Src.range1 hA'.handled (X.get (.head _)) (by omega), by omega, cells0 X rfl (am1 rfl) (by simp only [List.map_cons, List.map_nil]; decide), rfl, ?_, ?_⟩
  · intro C i vv s7 m cm led E' hC hi hPi hJ X7
    obtain ⟨tz, rfl⟩ := hPi
    subst hJ
    repeat' walk_at "go"
    rename_i t8 s8 X8
    refine i_pow X8 (by omega) (by omega) (by decide) ?_
    intro t9 s9 X9
    have hi4 : i < 4 := by omega
    have h3 : 0 < (3 : Int) ^ ((i : Int)).toNat ∧ (3 : Int) ^ ((i : Int)).toNat ≤ 27 := by
      have : i = 0 ∨ i = 1 ∨ i = 2 ∨ i = 3 := by omega
      rcases this with rfl | rfl | rfl | rfl <;> decide
    generalize (3 : Int) ^ ((i : Int)).toNat = q at h3 ⊢
    repeat' walk_at "go"
    rename_i t10 s10 X10
    refine i_div X10 (by omega) (by omega) ?_
    intro t11 s11 X11
    repeat' walk_at "go"
    rename_i t12 s12 X12
    refine ⟨[], _, _, ⟨rfl, (1 + v / (2 * q) % 3).toNat, t12, by omega, by omega, ?_⟩, rfl, X12⟩
    congr 1
    show _ = (((1 + v / (2 * q) % 3).toNat : Nat) : Int)
    omega
  intro D2 vs2 ys2 objs2 k2 s7 hlen2 hPi2 hout2 X
  repeat' walk_at "go"
  rename_i ta sa Xa tb sb Xb tc sc Xc l sl Xl td sd Xd te se Xe tf sf Xf tg sg X
  obtain ⟨x, tx, hx, hxe⟩ := ends_at (k := v / 162 % 3) ta tb tc (by omega) (by omega)
  refine sub_list (lst_is (X.get (.head _))) (by omega) (by omega) hxe ?_
  repeat' walk_at "go"
  rename_i l2 s8 X
  have hints := outs_ints hout2
  rw [hlen2] at hints
  obtain ⟨rfl, ps, h1, h2, h3⟩ := hints
  refine X.ret (objs := [(l2, lst [.ref D2, .str (S x) tx] 0), (D2, lst ys2 k2)]) ⟨l2, D2, tx, k2, ys2, ps, x, rfl, rfl, h1, ⟨by omega, h3⟩, hx⟩ ?_
  exact .cons_cons _ (.cons _ (.cons_cons _ (List.nil_sublist _)))
end

section
open PySem PySem.W PySem.Calls PyProof.Rows
set_option maxRecDepth 100000
set_option linter.unusedVariables false
set_option maxHeartbeats 4000000

theorem a_S : Str.ofString "a" = S [97] := by decide +kernel
theorem b_S : Str.ofString "b" = S [98] := by decide +kernel
theorem empty_S : Str.ofString "" = S [] := by decide +kernel

theorem head_gives {w : World} {A : Around} {s : Shared} (G : Gl w s.heap) (hA : OkA A 2) {c : Addr} {vs : List Value} (hl : s.heap.IsList c vs.toArray) (hv : ∀ v ∈ vs, ∃ z t, v = .int z t) (hn : vs.length ≤ 1000) :
    Gives w A (call (.ref 99) [.ref c]) s (fun v objs => objs = [] ∧ ∃ c t, c ≠ 10 ∧ c ≠ 13 ∧ v = .str (S [97, c]) t) := by
  refine enter (binds := [(Str.ofString "script", .ref c)]) G hA rfl rfl rfl rfl rfl rfl rfl rfl ?_
  intro A' s' hA' X
  repeat' walk_at "go"
  rename_i t1 s1 X
  refine lc (s₀ := s) (fun v y o => o = [] ∧ ∃ z t, y = .int z t) (fun _ => False) rfl rfl rfl (fun _ => rfl) ?_
  repeat' walk_at "go"
  refine ⟨_, _, _, _, _, _, Is _, X, Src.list hA'.handled (stays_list X.keep hl), by omega, cells0 X rfl am0 .nil, rfl, ?_, ?_⟩
  · intro C i v s1 m cm led E' hC hi hPi hJ X1
    obtain ⟨z, tz, rfl⟩ := hv v (List.mem_of_getElem? hPi)
    repeat' walk_at "go"
    rename_i t2 s2 X2
    exact ⟨[], _, _, ⟨rfl, _, _, rfl⟩, hJ, X2⟩
  intro D vs' ys objs k s1 hlen hPi hout X
  have hys := outs_any_ints hout
  repeat' walk_at "go"
  refine b_sum X hA'.handled (lst_is (X.get (.head _))) hys ?_
  intro z tz s2 X
  repeat' walk_at "go"
  rename_i t3 s3 X
  have hv0 : 0 ≤ (11 + z) % 55296 := Int.emod_nonneg _ (by decide)
  have hv1 : (11 + z) % 55296 < 55296 := Int.emod_lt_of_pos _ (by decide)
  refine chr_of_range hv0 (by omega) ?_
  replace X := X.tok (s3.toks + 1)
  show wpAny _ _ (storeName _ _ (Value.str (S [((11 + z) % 55296).toNat]) _)) _ _ _
  generalize ((11 + z) % 55296).toNat = c
  repeat' walk_at "go"
  rename_i t4 s4 X4 t5 s5 X5 l s6 X
  refine in_list_strs (ys := [Str.ofString "\r", Str.ofString "\n"]) (lst_is (X.get (.head _))) (.cons _ _ (.cons _ _ .nil)) ?_
  repeat' walk_at "go"
  rw [cr_S, nl_S]
  refine ⟨fun h => ?_, fun h => ?_⟩
  · repeat' walk_at "go"
    refine x_nil ?_
    show wpAny _ _ (execs _ _) _ _ _
    repeat' walk_at "go"
    rename_i t7 s7 X
    rw [a_S, b_S]
    refine s_add X (by rw [S_len, S_len]; show 1 + 1 ≤ 2 ^ 24; omega) ?_
    intro t8 s8 X
    rw [S_app]
    exact X.ret ⟨rfl, 98, _, by decide, by decide, rfl⟩ (List.nil_sublist _)
  · refine x_nil ?_
    show wpAny _ _ (execs _ _) _ _ _
    repeat' walk_at "go"
    rename_i t7 s7 X
    rw [a_S]
    refine s_add X (by rw [S_len, S_len]; show 1 + 1 ≤ 2 ^ 24; omega) ?_
    intro t8 s8 X
    rw [S_app]
    refine X.ret ⟨rfl, c, _, ?_, ?_, rfl⟩ (List.nil_sublist _)
    · rintro rfl
      revert h
      decide +kernel
    · rintro rfl
      revert h
      decide +kernel
end

section
open PySem PySem.W PySem.Calls PyProof.Rows
set_option maxRecDepth 100000
set_option linter.unusedVariables false
set_option maxHeartbeats 4000000

/-- the texts of a mail -/
def rowL (k l : Nat) : List Nat := List.replicate k 46 ++ [97] ++ List.replicate l 46
def rowsL (more : Nat) : List Nat → List (List Nat)
  | k :: l :: r => rowL (k + more) l :: rowsL more r
  | _ => []
def mailL (hd : List Nat) (ps : List Nat) (more : Nat) (e : List Nat) : List Nat := (([hd, []] ++ rowsL more ps).map (· ++ e)).flatten

theorem rowsL_len (more : Nat) : ∀ (ps : List Nat), (rowsL more ps).length = ps.length / 2
  | [] => rfl
  | [_] => by simp [rowsL]
  | _ :: _ :: r => by rw [rowsL, List.length_cons, rowsL_len more r]; simp only [List.length_cons]; omega
theorem rowsL_at (more : Nat) : ∀ (ps : List Nat) (i : Nat), i < ps.length / 2 → (rowsL more ps)[i]? = some (rowL (ps.getD (2 * i) 0 + more) (ps.getD (2 * i + 1) 0))
  | [], i, h => by simp at h
  | [_], i, h => by simp at h
  | k :: l :: r, 0, h => by simp [rowsL]
  | k :: l :: r, i + 1, h => by
    rw [rowsL, List.getElem?_cons_succ, rowsL_at more r i (by simp only [List.length_cons] at h; omega)]
    congr 2

theorem dot_S : Str.ofString "." = S [46] := by decide +kernel
theorem size2 (b : Int) : Builtin.Range.rangeSize 0 b 2 = if 0 < b then (b - 1) / 2 + 1 else 0 := by
  unfold Builtin.Range.rangeSize
  rw [if_pos (by decide)]
  split <;> omega
theorem small2 {b : Int} (h0 : 0 ≤ b) (hb : b < 2 ^ 60) : Builtin.Range.small 0 b 2 = true := by
  unfold Builtin.Range.small
  rw [size2]
  simp only [Builtin.Range.rangeFitsLong, Bool.and_eq_true, Bool.or_eq_true, decide_eq_true_eq, beq_iff_eq, show (2 : Int) > 0 by decide, if_true]
  split <;> omega
theorem rep_one (n : Nat) (c : Nat) : (List.replicate n [c]).flatten = List.replicate n c := by
  induction n with
  | zero => rfl
  | succ n ih => rw [List.replicate_succ, List.flatten_cons, ih]; rfl

theorem ints_at {vs : List Value} {ps : List Nat} (h : IntsOf vs ps) (i : Nat) (hi : i < ps.length) : ∃ t, vs[i]? = some (.int ((ps.getD i 0 : Nat) : Int) t) := by
  unfold IntsOf at h
  generalize hq : ps.map Int.ofNat = q at h
  induction h generalizing ps i with
  | nil =>
    have : ps = [] := by simpa using hq
    subst this; simp at hi
  | cons n t r ih =>
    cases ps with
    | nil => simp at hi
    | cons p ps =>
      simp only [List.map_cons, List.cons.injEq] at hq
      obtain ⟨rfl, hq⟩ := hq
      cases i with
      | zero => exact ⟨t, rfl⟩
      | succ i =>
        obtain ⟨t', h'⟩ := ih i (by simpa using hi) hq
        exact ⟨t', by simpa using h'⟩
theorem ints_len {vs : List Value} {ps : List Nat} (h : IntsOf vs ps) : vs.length = ps.length := by
  have := IntsAre.length h
  simpa using this

def idx2 : Value → Nat
  | .int z _ => (z / 2).toNat
  | _ => 0
theorem outs_rows {n : Nat} {ps : List Nat} {more : Nat} {vs ys : List Value} {objs : Led} (h : Outs (fun v y o => o = [] ∧ ∃ i t, v = .int (2 * (i : Nat) : Int) t ∧ ∃ t, y = .str (S (rowL (ps.getD (2 * i) 0 + more) (ps.getD (2 * i + 1) 0))) t) (fun _ => False) vs ys objs) :
    objs = [] ∧ StrsAre ys (vs.map fun v => S (rowL (ps.getD (2 * (idx2 v)) 0 + more) (ps.getD (2 * (idx2 v) + 1) 0))) := by
  induction h with
  | nil => exact ⟨rfl, .nil⟩
  | keep _ hp ih =>
    obtain ⟨rfl, hs⟩ := ih
    obtain ⟨rfl, i, t, rfl, t', rfl⟩ := hp
    refine ⟨rfl, ?_⟩
    rw [List.map_append]
    have : (2 * (i : Int) / 2).toNat = i := by omega
    simp only [List.map_cons, List.map_nil, idx2, this]
    exact strsAre_snoc hs
  | skip _ hp _ => exact hp.elim

theorem mail_gives {w : World} {A : Around} {s : Shared} (G : Gl w s.heap) (hA : OkA A 2) {p : Addr} {hd e : List Nat} {t u v : Tok} {more : Nat} {pvs : List Value} {ps : List Nat} (hl : s.heap.IsList p pvs.toArray) (hps : IntsOf pvs ps)
    (hlen : ps.length ≤ 100) (heven : ps.length % 2 = 0) (hsm : ∀ q ∈ ps, q ≤ 500) (hmore : more ≤ 10) (hhd : hd.length ≤ 100) (he : e.length ≤ 10) :
    Gives w A (call (.ref 104) [.str (S hd) t, .ref p, .int (more : Int) u, .str (S e) v]) s (fun v objs => objs = [] ∧ ∃ t, v = .str (S (mailL hd ps more e)) t) := by
  refine enterC (binds := [(Str.ofString "head", .str (S hd) t), (Str.ofString "parts", .ref p), (Str.ofString "more", .int (more : Int) u), (Str.ofString "end", .str (S e) v)]) G hA rfl rfl rfl rfl rfl rfl rfl ?_
  intro A' s' hA' X
  repeat' walk_at "go"
  rename_i t1 s1 X1 l1 s2 X
  refine lc (s₀ := s) (fun v y o => o = [] ∧ ∃ i t, v = .int (2 * (i : Nat) : Int) t ∧ ∃ t, y = .str (S (rowL (ps.getD (2 * i) 0 + more) (ps.getD (2 * i + 1) 0))) t) (fun _ => False) rfl rfl rfl (fun _ => rfl) ?_
  repeat' walk_at "go"
  rename_i t3 s3 X
  refine b_len X (stays_list X.keep hl) (by rw [ints_len hps]; omega) ?_
  intro t4 s4 X
  repeat' walk_at "go"
  rename_i t5 s5 X
  rw [ints_len hps]
  refine b_range3 X (by decide) (by decide) ?_
  intro r s6 X
  have hlp : s6.heap.IsList p pvs.toArray := stays_list X.keep hl
  have hget : ∀ i, i < ps.length → ps.getD i 0 ≤ 500 := fun i hi => by
    have : ps.getD i 0 ∈ ps := by rw [List.getD_eq_getElem?_getD, List.getElem?_eq_getElem hi]; simp
    exact hsm _ this
  refine ⟨_, _, _, ps.length / 2, _, _, Is _, X, Src.range (n := ps.length / 2) hA'.handled (X.get (.head _)) ?_ ?_, by omega, cells0 X rfl (am2 rfl rfl) (by simp only [List.map_cons, List.map_nil]; decide), rfl, ?_, ?_⟩
  · exact small2 (by omega) (by omega)
  · rw [size2]
    split <;> omega
  · intro C i v s7 m cm led E' hC hi hPi hJ X7
    obtain ⟨tz, rfl⟩ := hPi
    subst hJ
    obtain ⟨ta, hta⟩ := ints_at hps (2 * i) (by omega)
    obtain ⟨tb, htb⟩ := ints_at hps (2 * i + 1) (by omega)
    have ha := hget (2 * i) (by omega)
    have hb := hget (2 * i + 1) (by omega)
    generalize hqa : ps.getD (2 * i) 0 = a at hta ha
    generalize hqb : ps.getD (2 * i + 1) 0 = b at htb hb
    repeat' walk_at "go"
    rename_i s8 X8 t9 s9 X9
    refine sub_list (stays_list X9.keep hlp) (by omega) (by omega) (by rw [show (0 + (i : Int) * 2).toNat = 2 * i by omega]; exact hta) ?_
    repeat' walk_at "go"
    rename_i t10 s10 X10
    rw [show ((a : Int) + (more : Int)) = ((a + more : Nat) : Int) by push_cast; rfl, dot_S]
    refine s_mul X10 (by omega) (by decide) ?_
    intro t11 s11 X11
    rw [rep_one]
    repeat' walk_at "go"
    rename_i t12 s12 X12
    rw [a_S]
    refine s_add X12 (by rw [S_len, S_len, List.length_replicate]; show _ ≤ 2 ^ 24; simp; omega) ?_
    intro t13 s13 X13
    rw [S_app]
    repeat' walk_at "go"
    rename_i t14 s14 X14 t15 s15 X15 t16 s16 X16
    refine sub_list (stays_list X16.keep hlp) (by omega) (by omega) (by rw [show (0 + (i : Int) * 2 + 1).toNat = 2 * i + 1 by omega]; exact htb) ?_
    refine s_mul X16 (by omega) (by decide) ?_
    intro t17 s17 X17
    rw [rep_one]
    refine s_add X17 (by rw [S_len, S_len]; show _ ≤ 2 ^ 24; simp; omega) ?_
    intro t18 s18 X18
    rw [S_app]
    refine ⟨[], _, _, ⟨rfl, i, tz, by congr 1; omega, t18, ?_⟩, rfl, X18⟩
    rw [hqa, hqb]; rfl
  intro D vs ys objs k s7 hvl hPi hout X
  have hrows : objs = [] ∧ StrsAre ys ((rowsL more ps).map S) := by
    obtain ⟨ho, hs⟩ := outs_rows (n := ps.length / 2) hout
    refine ⟨ho, ?_⟩
    have : (vs.map fun v => S (rowL (ps.getD (2 * (idx2 v)) 0 + more) (ps.getD (2 * (idx2 v) + 1) 0))) = (rowsL more ps).map S := by
      apply List.ext_getElem?
      intro i
      rw [List.getElem?_map, List.getElem?_map]
      by_cases hi : i < ps.length / 2
      · rw [rowsL_at more ps i hi]
        have hiv : i < vs.length := by omega
        obtain ⟨tq, hq⟩ := hPi i vs[i] (List.getElem?_eq_getElem hiv)
        rw [List.getElem?_eq_getElem hiv, hq]
        simp only [Option.map_some, idx2]
        rw [show ((0 + (i : Int) * 2) / 2).toNat = i by omega]
      · rw [List.getElem?_eq_none (by omega), List.getElem?_eq_none (by rw [rowsL_len]; omega)]
        rfl
    rw [← this]; exact hs
  obtain ⟨rfl, hrows⟩ := hrows
  repeat' walk_at "go"
  have hyl : ys.length = ps.length / 2 := by have := StrsAre.length hrows; rw [this, List.length_map, rowsL_len]
  refine l_add X (X.get (.tail _ (.tail _ (.head _)))) (X.get (.head _)) (by simp; omega) ?_
  intro l2 s8 X
  repeat' walk_at "go"
  rename_i s9 X9 t10 s10 X
  refine lc (s₀ := s) (fun v y o => o = [] ∧ ∃ l t t', v = .str (S l) t ∧ y = .str (S (l ++ e)) t') (fun _ => False) rfl rfl rfl (fun _ => rfl) ?_
  repeat' walk_at "go"
  have hall : StrsAre ([.str (S hd) t, .str (Str.ofString "") t1] ++ ys) (([hd, []] ++ rowsL more ps).map S) := by
    rw [List.map_append, empty_S]
    exact .cons _ _ (.cons _ _ hrows)
  have hrl : ∀ x ∈ [hd, []] ++ rowsL more ps, x.length ≤ 1100 := by
    intro x hx
    rcases List.mem_append.mp hx with hx | hx
    · rcases List.mem_cons.mp hx with rfl | hx
      · omega
      · rcases List.mem_cons.mp hx with rfl | hx
        · simp
        · cases hx
    · obtain ⟨i, hi, rfl⟩ := List.getElem_of_mem hx
      rw [rowsL_len] at hi
      have h1 := rowsL_at more ps i hi
      rw [List.getElem?_eq_getElem (by rw [rowsL_len]; exact hi)] at h1
      rw [Option.some.inj h1]
      have h2 := hget (2 * i) (by omega)
      have h3 := hget (2 * i + 1) (by omega)
      simp only [rowL, List.length_append, List.length_replicate, List.length_cons, List.length_nil]
      omega
  refine ⟨_, _, _, _, _, _, Is _, X, Src.list hA'.handled (lst_is (X.get (.head _))), by simp; omega, cells0 X rfl (am1 rfl) (by simp only [List.map_cons, List.map_nil]; decide), rfl, ?_, ?_⟩
  · intro C i vv s11 m cm led E' hC hi hPi hJ X11
    subst hJ
    obtain ⟨y, ty, rfl, hy⟩ := StrsAre.item hall i vv hPi
    obtain ⟨x, hx, rfl⟩ := List.mem_map.mp (List.mem_of_getElem? hy)
    have hxl := hrl x hx
    repeat' walk_at "go"
    rename_i s12 X12
    refine s_add X12 (by rw [S_len, S_len]; show _ ≤ 2 ^ 24; omega) ?_
    intro t13 s13 X13
    rw [S_app]
    exact ⟨[], _, _, ⟨rfl, x, ty, t13, rfl, rfl⟩, rfl, X13⟩
  intro D2 vs2 ys2 objs2 k2 s11 hvl2 hPi2 hout2 X
  repeat' walk_at "go"
  have e2 := src_eq hvl2 hPi2
  subst e2
  obtain ⟨rfl, hpair⟩ := hout2.paired
  have hys2 : StrsAre ys2 ((([hd, []] ++ rowsL more ps).map (· ++ e)).map S) := by
    clear hrl hvl2 hPi2 hout2 X
    generalize [hd, []] ++ rowsL more ps = ls at hall
    generalize [Value.str (S hd) t, Value.str (Str.ofString "") t1] ++ ys = vv at hall hpair
    induction hpair generalizing ls with
    | nil =>
      cases ls with
      | nil => exact .nil
      | cons => cases hall
    | cons h1 h2 ih =>
      cases ls with
      | nil => cases hall
      | cons x ls =>
        obtain ⟨l, tl, tl', rfl, rfl⟩ := h1
        rw [List.map_cons] at hall
        generalize hsx : S x = sx at hall
        cases hall with
        | cons _ _ hall' =>
          obtain rfl := S_inj hsx
          exact .cons _ _ (ih _ hall')
  refine b_join X (by rw [empty_S]; rfl) (lst_is (X.get (.head _))) hys2 ?_ ?_
  · refine Nat.le_trans (flatten_le (M := 1110) ?_) ?_
    · intro x hx
      obtain ⟨y, hy, rfl⟩ := List.mem_map.mp hx
      have := hrl y hy
      rw [List.length_append]; omega
    · rw [List.length_map, List.length_append, rowsL_len]
      simp only [List.length_cons, List.length_nil]
      omega
  · intro t12 s12 X
    exact X.ret ⟨rfl, t12, rfl⟩ (List.nil_sublist _)
end

section
open PySem PySem.W PySem.Calls PyProof.Rows
set_option maxRecDepth 100000
set_option linter.unusedVariables false
set_option maxHeartbeats 4000000

/-- the number of a mail -/
def numL : List Nat → Nat × Nat
  | [] => (0, 1)
  | k :: r => ((numL r).2, k * (numL r).2 + (numL r).1)

theorem number_gives {w : World} {A : Around} {s : Shared} (G : Gl w s.heap) (hA : OkA A 2) {p : Addr} {pvs : List Value} {ps : List Nat} (hl : s.heap.IsList p pvs.toArray) (hps : IntsOf pvs ps)
    (hlen : ps.length ≤ 100) (hsm : ∀ q ∈ ps, q ≤ 500) :
    Gives w A (call (.ref 111) [.ref p]) s (fun v objs => ∃ l k t u, v = .ref l ∧ objs = [(l, lst [.int ((numL ps).1 : Int) t, .int ((numL ps).2 : Int) u] k)]) := by
  refine enter (binds := [(Str.ofString "parts", .ref p)]) G hA rfl rfl rfl rfl rfl rfl rfl rfl ?_
  intro A' s' hA' X
  repeat' walk_at "go"
  rename_i t1 s1 X1 t2 s2 X2 l1 s3 X3 s4 X
  refine e_slice (s₀ := s) ?_
  repeat' walk_at "go"
  rename_i t5 s5 X5 t6 s6 X
  refine ⟨_, _, _, X, ?_⟩
  intro a s7 X
  refine sub_slice X (stays_list X.keep hl) (X.get (.head _)) .none .none (.int _ _) (by decide) (by rw [ints_len hps]; omega) ?_ (by with_unfolding_all rfl)
  rw [krv_pick]
  intro l' s8 X
  refine it_list X (lst_is (X.get (.head _))) ?_
  intro I s9 X
  have hr : ((pvs.toArray.toList.reverse.toArray).toList) = pvs.reverse := by simp
  rw [hr] at X
  have hpl := ints_len hps
  refine for_rule (Itr.list hA'.handled I l' pvs.reverse) (by decide)
    (fun i m cm rest => ∃ a n tp tq, m (Str.ofString "number") = some (.ref a) ∧ (a, lst [.int ((numL (ps.drop (ps.length - i))).1 : Int) tp, .int ((numL (ps.drop (ps.length - i))).2 : Int) tq] n) ∈ rest ∧ (l', lst pvs.reverse 0) ∈ rest)
    (fun i m cm rest s o h X => by obtain ⟨_, _, _, _, _, _, h3⟩ := h; exact lst_is (X.get (.tail _ h3))) (fun f s h => h)
    ⟨l1, 0, t1, t2, rfl, ?_, .head _⟩ ⟨rfl, rfl⟩ X ?_ ?_
  · rw [Nat.sub_zero, List.drop_of_length_le (Nat.le_refl _)]
    exact .tail _ (.tail _ (.head _))
  · rintro i m cm rest s10 o v E' hi ⟨a, n, tp, tq, hm, ha, hl'⟩ hv ho X
    have hi' : i < ps.length := by rw [List.length_reverse] at hi; omega
    have hv' : pvs[ps.length - 1 - i]? = some v := by
      rw [List.getElem?_reverse (by omega)] at hv
      rw [← hv]; congr 1; omega
    obtain ⟨tv, htv⟩ := ints_at hps (ps.length - 1 - i) (by omega)
    rw [htv] at hv'
    obtain rfl := Option.some.inj hv'
    have hsml : ps.getD (ps.length - 1 - i) 0 ≤ 500 := by
      have : ps.getD (ps.length - 1 - i) 0 ∈ ps := by rw [List.getD_eq_getElem?_getD, List.getElem?_eq_getElem (by omega)]; simp
      exact hsm _ this
    have hdrop : ps.drop (ps.length - (i + 1)) = ps.getD (ps.length - 1 - i) 0 :: ps.drop (ps.length - i) := by
      rw [List.drop_eq_getElem_cons (by omega)]
      congr 1
      · rw [List.getD_eq_getElem?_getD, List.getElem?_eq_getElem (by omega)]; simp only [Option.getD_some]; congr 1; omega
      · congr 1; omega
    generalize ps.getD (ps.length - 1 - i) 0 = q at hdrop hsml X
    repeat' walk_at "go"
    rename_i s11 X11 t12 s12 X
    refine sub_list (lst_is (X.get (.tail _ ha))) (by decide) (by decide) rfl ?_
    repeat' walk_at "go"
    rename_i t13 s13 X
    refine sub_list (lst_is (X.get (.tail _ ha))) (by decide) (by decide) rfl ?_
    refine i_mulL X (by omega) ?_
    intro t14 s14 X
    repeat' walk_at "go"
    rename_i t15 s15 X
    refine sub_list (lst_is (X.get (.tail _ ha))) (by decide) (by decide) rfl ?_
    repeat' walk_at "go"
    rename_i t16 s16 X16 l2 s17 X17 s18 X
    refine x_nil ?_
    refine ⟨_, _, (l2, _) :: rest, ⟨l2, 0, tq, t16, upd_same _ _ _, ?_, .tail _ hl'⟩, X.perm (List.Perm.swap _ _ _)⟩
    rw [hdrop, numL]
    push_cast
    exact .head _
  · rintro m cm rest s10 ⟨a, n, tp, tq, hm, ha, hl'⟩ X
    show wpAny _ _ (execs _ _) _ _ _
    repeat' walk_at "go"
    rw [List.length_reverse, hpl, Nat.sub_self, List.drop_zero] at ha
    exact X.ret ⟨a, n, tp, tq, rfl, rfl⟩ (List.singleton_sublist.mpr ha)
end

section
open PySem PySem.W PySem.Calls PyProof.Rows
set_option maxRecDepth 100000
set_option linter.unusedVariables false
set_option maxHeartbeats 4000000

/-- a fraction's parts -/
def euL (p q : Nat) : List Nat := if h : p = 0 then [] else q / p :: euL (q % p) p
  termination_by p
  decreasing_by exact Nat.mod_lt _ (Nat.pos_of_ne_zero h)
def evenL (l : List Nat) : List Nat := if l.length % 2 = 1 then l.dropLast ++ [l.getLastD 0 - 1, 1] else l
def partsL (p q : Nat) : List Nat := evenL (euL p q)

theorem euL_zero (q : Nat) : euL 0 q = [] := by rw [euL]; simp
theorem euL_step {p : Nat} (h : p ≠ 0) (q : Nat) : euL p q = q / p :: euL (q % p) p := by rw [euL]; simp [h]
theorem euL_pos : ∀ (p q : Nat), p ≤ q → ∀ x ∈ euL p q, 1 ≤ x ∧ x ≤ q := by
  intro p
  induction p using Nat.strongRecOn with
  | ind p ih =>
    intro q hq x hx
    by_cases h : p = 0
    · subst h; rw [euL_zero] at hx; cases hx
    · rw [euL_step h] at hx
      rcases List.mem_cons.mp hx with rfl | hx
      · exact ⟨(Nat.one_le_div_iff (by omega)).mpr hq, Nat.div_le_self _ _⟩
      · have := ih (q % p) (Nat.mod_lt _ (by omega)) p (Nat.le_of_lt (Nat.mod_lt _ (by omega))) x hx
        omega

theorem ints_snoc {vs : List Value} {ps : List Nat} {x : Nat} {t : Tok} (h : IntsOf vs ps) : IntsOf (vs ++ [.int (x : Int) t]) (ps ++ [x]) := by
  unfold IntsOf at h ⊢
  rw [List.map_append]
  generalize ps.map Int.ofNat = q at h
  induction h with
  | nil => exact .cons _ _ .nil
  | cons n t r ih => exact .cons n t ih
theorem ints_two {vs : List Value} {ps : List Nat} {x y : Nat} {t u : Tok} (h : IntsOf vs ps) : IntsOf (vs ++ [.int (x : Int) t, .int (y : Int) u]) (ps ++ [x, y]) := by
  have := ints_snoc (x := y) (t := u) (ints_snoc (x := x) (t := t) h)
  rw [List.append_assoc, List.append_assoc] at this
  exact this

theorem parts_gives {w : World} {A : Around} {s : Shared} (G : Gl w s.heap) (hA : OkA A 2) {p q : Nat} {t u : Tok} (hp : 0 < p) (hpq : p ≤ q) (hq : q ≤ 2 ^ 20) :
    Gives w A (call (.ref 118) [.int (p : Int) t, .int (q : Int) u]) s (fun v objs => ∃ l vs k, v = .ref l ∧ objs = [(l, lst vs k)] ∧ IntsOf vs (partsL p q)) := by
  refine enter (binds := [(Str.ofString "upper", .int (p : Int) t), (Str.ofString "lower", .int (q : Int) u)]) G hA rfl rfl rfl rfl rfl rfl rfl rfl ?_
  intro A' s' hA' X
  repeat' walk_at "go"
  rename_i l1 s1 X1 s2 X
  refine x_while (n := p) (fun n m cm led => ∃ (lo : Nat) (acc : List Nat) (vs : List Value) (k : Nat) (tu tl : Tok), m (Str.ofString "parts") = some (.ref l1) ∧ m (Str.ofString "upper") = some (.int (n : Int) tu) ∧ m (Str.ofString "lower") = some (.int (lo : Int) tl) ∧
    n ≤ lo ∧ lo ≤ 2 ^ 20 ∧ acc.length + n ≤ p ∧ IntsOf vs acc ∧ led = [(l1, lst vs k)] ∧ acc ++ euL n lo = euL p q)
    ⟨q, [], [], 0, t, u, rfl, rfl, rfl, hpq, hq, by simp, .nil, rfl, rfl⟩ X ?_
  rintro n m cm led s3 E' ⟨lo, acc, vs, k, tu, tl, h1, h2, h3, h4, h5, h6, h7, rfl, h8⟩ X
  repeat' walk_at "go"
  rename_i t4 s4 X
  refine ⟨fun hb => ?_, fun hb => ?_⟩
  · have hn : n ≠ 0 := by have := of_decide_eq_true hb; omega
    repeat' walk_at "go"
    refine g_append (X.get (.head _)) ?_
    repeat' walk_at "go"
    refine i_div X (by omega) (by omega) ?_
    intro t5 s5 X
    repeat' walk_at "go"
    refine b_append X (by rw [ints_len h7]; omega) ?_
    intro s6 X
    repeat' walk_at "go"
    refine x_swap2 (s₀ := s) hA'.handled rfl rfl ?_
    repeat' walk_at "go"
    refine i_mod X (by omega) ?_
    intro t7 s7 X
    repeat' walk_at "go"
    refine ⟨_, _, _, _, _, rfl, X, ?_⟩
    intro s8 X
    repeat' walk_at "go"
    rename_i s9 X9 s10 X
    refine x_nil ⟨lo % n, _, _, _, Nat.mod_lt _ (by omega), ⟨n, acc ++ [lo / n], _, _, t7, tu, ?_, ?_, ?_, ?_, ?_, ?_, ints_snoc h7, rfl, ?_⟩, X⟩
    · rw [upd_ne _ _ (by decide), upd_ne _ _ (by decide)]; exact h1
    · rw [upd_same]; rfl
    · rw [upd_ne _ _ (by decide), upd_same]
    · exact Nat.le_of_lt (Nat.mod_lt _ (by omega))
    · omega
    · rw [List.length_append, List.length_singleton]; have := Nat.mod_lt lo (show n > 0 by omega); omega
    · rw [← h8, euL_step hn, List.append_assoc]; rfl
  · have hn : n = 0 := by have := of_decide_eq_false hb; omega
    subst hn
    rw [euL_zero, List.append_nil] at h8
    subst h8
    have hlen := ints_len h7
    have hpos := euL_pos p q hpq
    repeat' walk_at "go"
    refine b_len X (lst_is (X.get (.head _))) (by omega) ?_
    intro t5 s5 X
    repeat' walk_at "go"
    rename_i t6 s6 X6 t7 s7 X7 t8 s8 X
    refine ⟨fun hb => ?_, fun hb => ?_⟩
    · have ho : (euL p q).length % 2 = 1 := by have := of_decide_eq_true hb; omega
      repeat' walk_at "go"
      refine e_slice (s₀ := s) ?_
      repeat' walk_at "go"
      rename_i t9 s9 X9 t10 s10 X
      refine ⟨_, _, _, X, ?_⟩
      intro a s11 X
      refine sub_slice X (lst_is (X.get (.tail _ (.head _)))) (X.get (.head _)) .none (.int _ _) .none (by decide) (by omega) ?_ (by with_unfolding_all rfl)
      intro l2 s12 X
      have hsl : IntsOf (slicePick vs.toArray none (some (-1)) none).toList (euL p q).dropLast := by
        have := kmk_upto_neg (y := -1) h7 (by decide)
        unfold IntsOf
        rw [List.length_map, ← List.map_take, show (-(-1 : Int)).toNat = 1 from rfl] at this
        rw [List.dropLast_eq_take]
        exact this
      generalize (slicePick vs.toArray none (some (-1)) none).toList = ws at hsl X
      obtain ⟨e0, el⟩ : ∃ e0, (euL p q)[(euL p q).length - 1]? = some e0 := ⟨_, List.getElem?_eq_getElem (by omega)⟩
      obtain ⟨tz, htz⟩ := ints_at h7 ((euL p q).length - 1) (by omega)
      have hg : (euL p q).getD ((euL p q).length - 1) 0 = e0 := by rw [List.getD_eq_getElem?_getD, el]; rfl
      rw [hg] at htz
      have hlast : (euL p q).getLastD 0 = e0 := by rw [List.getLastD_eq_getLast?, List.getLast?_eq_getElem?, el]; rfl
      have he0 := hpos e0 (List.mem_of_getElem? el)
      repeat' walk_at "go"
      rename_i t13 s13 X13 t14 s14 X
      refine sub_neg (lst_is (X.get (.tail _ (.tail _ (.head _))))) (by decide) (by omega) (by omega) (by rw [hlen, show (-1 + ((euL p q).length : Int)).toNat = (euL p q).length - 1 by omega]; exact htz) ?_
      repeat' walk_at "go"
      rename_i t15 s15 X15 t16 s16 X16 t17 s17 X17 l3 s18 X
      refine l_add X (X.get (.tail _ (.head _))) (X.get (.head _)) (by rw [ints_len hsl, List.length_dropLast]; show _ + 2 ≤ _; omega) ?_
      intro l4 s19 X
      refine X.ret ⟨l4, _, _, rfl, rfl, ?_⟩ (List.singleton_sublist.mpr (.head _))
      rw [partsL, evenL, if_pos ho, hlast, show ((e0 : Int) - 1) = ((e0 - 1 : Nat) : Int) by omega]
      exact ints_two hsl
    · have ho : ¬ (euL p q).length % 2 = 1 := by have := of_decide_eq_false hb; omega
      refine x_nil ?_
      repeat' walk_at "go"
      refine X.ret ⟨l1, vs, k, rfl, rfl, ?_⟩ (List.Sublist.refl _)
      rw [partsL, evenL, if_neg ho]
      exact h7
end

section
open PySem PySem.W PySem.Calls PyProof.Rows
set_option maxRecDepth 100000
set_option linter.unusedVariables false
set_option maxHeartbeats 4000000

theorem outs_rng_ints {f : Nat → Nat} {vs ys : List Value} {objs : Led} (h : Outs (fun v y o => o = [] ∧ ∃ (i : Nat) (t t' : Tok), v = .int (i : Int) t ∧ y = .int ((f i : Nat) : Int) t') (fun _ => False) vs ys objs)
    (hv : ∀ (i : Nat) v, vs[i]? = some v → ∃ t, v = .int (i : Int) t) : objs = [] ∧ IntsOf ys ((List.range vs.length).map f) := by
  induction h with
  | nil => exact ⟨rfl, .nil⟩
  | @keep vs ys o v y o' _ hp ih =>
    obtain ⟨rfl, hi⟩ := ih fun i v e => hv i v (by rw [List.getElem?_append_left (by exact (List.getElem?_eq_some_iff.mp e).1)]; exact e)
    obtain ⟨rfl, i, t, t', rfl, rfl⟩ := hp
    obtain ⟨t2, e⟩ := hv vs.length (.int (i : Int) t) (by simp)
    have : i = vs.length := by have := (Value.int.inj e).1; omega
    subst this
    rw [List.length_append, List.length_singleton, List.range_succ, List.map_append]
    exact ⟨rfl, ints_snoc hi⟩
  | skip _ hp _ => exact hp.elim
theorem outs_rng_strs {f : Nat → List Nat} {vs ys : List Value} {objs : Led} (h : Outs (fun v y o => o = [] ∧ ∃ (i : Nat) (t t' : Tok), v = .int (i : Int) t ∧ y = .str (S (f i)) t') (fun _ => False) vs ys objs)
    (hv : ∀ (i : Nat) v, vs[i]? = some v → ∃ t, v = .int (i : Int) t) : objs = [] ∧ StrsAre ys (((List.range vs.length).map f).map S) := by
  induction h with
  | nil => exact ⟨rfl, .nil⟩
  | @keep vs ys o v y o' _ hp ih =>
    obtain ⟨rfl, hi⟩ := ih fun i v e => hv i v (by rw [List.getElem?_append_left (by exact (List.getElem?_eq_some_iff.mp e).1)]; exact e)
    obtain ⟨rfl, i, t, t', rfl, rfl⟩ := hp
    obtain ⟨t2, e⟩ := hv vs.length (.int (i : Int) t) (by simp)
    have : i = vs.length := by have := (Value.int.inj e).1; omega
    subst this
    rw [List.length_append, List.length_singleton, List.range_succ, List.map_append, List.map_append]
    exact ⟨rfl, strsAre_snoc hi⟩
  | skip _ hp _ => exact hp.elim

def bumpL (more : Nat) (ps : List Nat) : List Nat := (List.range ps.length).map fun j => if j % 2 = 1 then ps.getD j 0 else ps.getD j 0 + more
def trimL (rs : List Nat) : List Nat := [rs.getD 0 0 - 1] ++ (rs.drop 1).take (rs.length - 1 - 1) ++ [rs.getD (rs.length - 1) 0 - 1]
def leftL : List Nat := [108, 101, 102, 116, 32]
def rightL : List Nat := [114, 105, 103, 104, 116, 32]
def wordL (j : Nat) : List Nat := if j % 2 = 1 then rightL else leftL
def movesL (rs : List Nat) : List Nat := ((List.range rs.length).map fun j => (List.replicate (rs.getD j 0) (wordL j)).flatten).flatten
theorem left_S : Str.ofString "left " = S leftL := by decide +kernel
theorem right_S : Str.ofString "right " = S rightL := by decide +kernel

theorem moves_gives {w : World} {A : Around} {s : Shared} (G : Gl w s.heap) (hA : OkA A 2) {p : Addr} {t : Tok} {more : Nat} {pvs : List Value} {ps : List Nat} (hl : s.heap.IsList p pvs.toArray) (hps : IntsOf pvs ps)
    (hlen : 2 ≤ ps.length) (hlen2 : ps.length ≤ 10) (hsm : ∀ q ∈ ps, 1 ≤ q ∧ q ≤ 10) (hmore : more ≤ 10) :
    Gives w A (call (.ref 130) [.ref p, .int (more : Int) t]) s (fun v objs => objs = [] ∧ ∃ t, v = .str (S (movesL (trimL (bumpL more ps)))) t) := by
  refine enterC (binds := [(Str.ofString "parts", .ref p), (Str.ofString "more", .int (more : Int) t)]) G hA rfl rfl rfl rfl rfl rfl rfl ?_
  intro A' s' hA' X
  have hget : ∀ i, i < ps.length → 1 ≤ ps.getD i 0 ∧ ps.getD i 0 ≤ 10 := fun i hi => by
    have : ps.getD i 0 ∈ ps := by rw [List.getD_eq_getElem?_getD, List.getElem?_eq_getElem hi]; simp
    exact hsm _ this
  repeat' walk_at "go"
  refine lc (s₀ := s) (fun v y o => o = [] ∧ ∃ (i : Nat) (t t' : Tok), v = .int (i : Int) t ∧ y = .int (((if i % 2 = 1 then ps.getD i 0 else ps.getD i 0 + more) : Nat) : Int) t') (fun _ => False) rfl rfl rfl (fun _ => rfl) ?_
  repeat' walk_at "go"
  refine b_len X (stays_list X.keep hl) (by rw [ints_len hps]; omega) ?_
  intro t1 s1 X
  repeat' walk_at "go"
  rw [ints_len hps]
  refine b_range1 X ?_
  intro r s2 u2 v2 X
  have hlp : s2.heap.IsList p pvs.toArray := stays_list X.keep hl
  refine ⟨_, _, _, ps.length, _, _, Is _, X, Src.range1 hA'.handled (X.get (.head _)) (by omega), by omega, cells0 X rfl (am2 rfl rfl) (by simp only [List.map_cons, List.map_nil]; decide), rfl, ?_, ?_⟩
  · intro C i v s3 m cm led E' hC hi hPi hJ X3
    obtain ⟨tz, rfl⟩ := hPi
    subst hJ
    obtain ⟨ta, hta⟩ := ints_at hps i (by omega)
    repeat' walk_at "go"
    rename_i s4 X4 t5 s5 X5 t6 s6 X6 t7 s7 X7
    refine ⟨fun hb => ?_, fun hb => ?_⟩
    · have ho : i % 2 = 1 := by have := of_decide_eq_true hb; omega
      repeat' walk_at "go"
      refine sub_list (stays_list X7.keep hlp) (by omega) (by omega) (by rw [show ((i : Int)).toNat = i by omega]; exact hta) ?_
      exact ⟨[], _, _, ⟨rfl, i, tz, ta, rfl, by rw [if_pos ho]⟩, rfl, X7⟩
    · have ho : ¬ i % 2 = 1 := by have := of_decide_eq_false hb; omega
      repeat' walk_at "go"
      refine sub_list (stays_list X7.keep hlp) (by omega) (by omega) (by rw [show ((i : Int)).toNat = i by omega]; exact hta) ?_
      repeat' walk_at "go"
      rename_i t8 s8 X8
      exact ⟨[], _, _, ⟨rfl, i, tz, t8, rfl, by rw [if_neg ho]; push_cast; rfl⟩, rfl, X8⟩
  intro D vs ys objs k s3 hvl hPi hout X
  obtain ⟨rfl, hys⟩ := outs_rng_ints hout hPi
  rw [hvl] at hys
  have hys : IntsOf ys (bumpL more ps) := hys
  have hbl : (bumpL more ps).length = ps.length := by simp [bumpL]
  have hbg : ∀ i, i < ps.length → 1 ≤ (bumpL more ps).getD i 0 ∧ (bumpL more ps).getD i 0 ≤ 20 := fun i hi => by
    have h1 := hget i hi
    unfold bumpL
    rw [List.getD_eq_getElem?_getD, List.getElem?_map, List.getElem?_range hi]
    simp only [Option.map_some, Option.getD_some]
    split <;> omega
  generalize bumpL more ps = rs at hys hbl hbg
  have hyl := ints_len hys
  obtain ⟨ta, hta⟩ := ints_at hys 0 (by omega)
  obtain ⟨tb, htb⟩ := ints_at hys (rs.length - 1) (by omega)
  have ha := hbg 0 (by omega)
  have hb := hbg (rs.length - 1) (by omega)
  repeat' walk_at "go"
  rename_i s4 X4 t5 s5 X
  refine sub_list (lst_is (X.get (.head _))) (by decide) (by decide) hta ?_
  repeat' walk_at "go"
  rename_i t6 s6 X6 t7 s7 X7 l8 s8 X
  refine e_slice (s₀ := s) ?_
  repeat' walk_at "go"
  rename_i t9 s9 X9 t10 s10 X10 t11 s11 X
  refine ⟨_, _, _, X, ?_⟩
  intro a s12 X
  refine sub_slice X (lst_is (X.get (.tail _ (.tail _ (.head _))))) (X.get (.head _)) (.int _ _) (.int _ _) .none (by decide) (by omega) ?_ (by with_unfolding_all rfl)
  intro l13 s13 X
  have hsl : IntsOf (slicePick ys.toArray (some 1) (some (-1)) none).toList ((rs.drop 1).take (rs.length - 1 - 1)) := by
    have := kmk_run_neg (x := 1) (y := -1) hys (by decide) (by decide)
    unfold IntsOf
    rw [List.length_map, ← List.map_drop, ← List.map_take] at this
    exact this
  generalize (slicePick ys.toArray (some 1) (some (-1)) none).toList = ws at hsl X
  have hwl := ints_len hsl
  rw [List.length_take, List.length_drop] at hwl
  refine l_add X (X.get (.tail _ (.tail _ (.head _)))) (X.get (.head _)) (by simp only [List.length_cons, List.length_nil]; omega) ?_
  intro l14 s14 X
  repeat' walk_at "go"
  rename_i t15 s15 X15 t16 s16 X
  refine sub_neg (lst_is (X.get (.tail _ (.tail _ (.tail _ (.tail _ (.head _))))))) (by decide) (by omega) (by omega) (by rw [hyl, show (-1 + (rs.length : Int)).toNat = rs.length - 1 by omega]; exact htb) ?_
  repeat' walk_at "go"
  rename_i t17 s17 X17 t18 s18 X18 l19 s19 X
  refine l_add X (X.get (.tail _ (.head _))) (X.get (.head _)) (by simp only [List.length_append, List.length_cons, List.length_nil]; omega) ?_
  intro l20 s20 X
  have htr : IntsOf ([.int ((rs.getD 0 0 : Int) - 1) t7] ++ ws ++ [.int ((rs.getD (rs.length - 1) 0 : Int) - 1) t18]) (trimL rs) := by
    unfold trimL
    rw [show ((rs.getD 0 0 : Int) - 1) = ((rs.getD 0 0 - 1 : Nat) : Int) by omega, show ((rs.getD (rs.length - 1) 0 : Int) - 1) = ((rs.getD (rs.length - 1) 0 - 1 : Nat) : Int) by omega]
    refine ints_snoc ?_
    exact .cons _ _ hsl
  have htl : (trimL rs).length = rs.length := by
    simp only [trimL, List.length_append, List.length_cons, List.length_nil, List.length_take, List.length_drop]; omega
  have htg : ∀ q ∈ trimL rs, q ≤ 20 := by
    intro q hq
    rcases List.mem_append.mp hq with hq | hq
    · rcases List.mem_append.mp hq with hq | hq
      · rcases List.mem_cons.mp hq with rfl | hq
        · omega
        · cases hq
      · have := List.mem_of_mem_drop (List.mem_of_mem_take hq)
        obtain ⟨i, hi, rfl⟩ := List.getElem_of_mem this
        have := hbg i (by omega)
        rw [List.getD_eq_getElem?_getD, List.getElem?_eq_getElem hi] at this
        exact this.2
    · rcases List.mem_cons.mp hq with rfl | hq
      · omega
      · cases hq
  have htg' : ∀ i, i < (trimL rs).length → (trimL rs).getD i 0 ≤ 20 := fun i hi => by
    have : (trimL rs).getD i 0 ∈ trimL rs := by rw [List.getD_eq_getElem?_getD, List.getElem?_eq_getElem hi]; simp
    exact htg _ this
  generalize [Value.int ((rs.getD 0 0 : Int) - 1) t7] ++ ws ++ [.int ((rs.getD (rs.length - 1) 0 : Int) - 1) t18] = tvs at htr X
  generalize trimL rs = ts at htr htl htg htg'
  have htvl := ints_len htr
  repeat' walk_at "go"
  rename_i s21 X21 t22 s22 X
  refine lc (s₀ := s) (fun v y o => o = [] ∧ ∃ (i : Nat) (t t' : Tok), v = .int (i : Int) t ∧ y = .str (S (List.replicate (ts.getD i 0) (wordL i)).flatten) t') (fun _ => False) rfl rfl rfl (fun _ => rfl) ?_
  repeat' walk_at "go"
  refine b_len X (lst_is (X.get (.head _))) (by omega) ?_
  intro t23 s23 X
  repeat' walk_at "go"
  rw [htvl]
  refine b_range1 X ?_
  intro r2 s24 u24 v24 X
  have hlt : s24.heap.IsList l20 tvs.toArray := lst_is (X.get (.tail _ (.head _)))
  refine ⟨_, _, _, ts.length, _, _, Is _, X, Src.range1 hA'.handled (X.get (.head _)) (by omega), by omega, cells0 X rfl (am1 rfl) (by simp only [List.map_cons, List.map_nil]; decide), rfl, ?_, ?_⟩
  · intro C i v s25 m cm led E' hC hi hPi hJ X25
    obtain ⟨tz, rfl⟩ := hPi
    subst hJ
    obtain ⟨tc, htc⟩ := ints_at htr i (by omega)
    have hc := htg' i hi
    repeat' walk_at "go"
    rename_i s26 X26 t27 s27 X27 t28 s28 X28 l29 s29 X29 t30 s30 X30 t31 s31 X31
    obtain ⟨tw, htw⟩ : ∃ tw, [Value.str (Str.ofString "left ") t27, Value.str (Str.ofString "right ") t28][((i : Int) % 2).toNat]? = some (.str (S (wordL i)) tw) := by
      rw [left_S, right_S]
      unfold wordL
      by_cases ho : i % 2 = 1
      · rw [if_pos ho, show ((i : Int) % 2).toNat = 1 by omega]; exact ⟨_, rfl⟩
      · rw [if_neg ho, show ((i : Int) % 2).toNat = 0 by omega]; exact ⟨_, rfl⟩
    refine sub_list (lst_is (X31.get (.head _))) (by omega) (by omega) htw ?_
    repeat' walk_at "go"
    refine sub_list (stays_list X31.keep hlt) (by omega) (by omega) (by rw [show ((i : Int)).toNat = i by omega]; exact htc) ?_
    refine s_mul X31 (by omega) (by unfold wordL; split <;> decide) ?_
    intro t32 s32 X32
    exact ⟨[], _, _, ⟨rfl, i, tz, t32, rfl, rfl⟩, rfl, X32.sub (.cons _ (List.Sublist.refl _))⟩
  intro D2 vs2 ys2 objs2 k2 s25 hvl2 hPi2 hout2 X
  obtain ⟨rfl, hys2⟩ := outs_rng_strs hout2 hPi2
  rw [hvl2] at hys2
  repeat' walk_at "go"
  refine b_join X (by rw [empty_S]; rfl) (lst_is (X.get (.head _))) hys2 ?_ ?_
  · refine Nat.le_trans (flatten_le (M := 120) ?_) ?_
    · intro x hx
      obtain ⟨j, hj, rfl⟩ := List.mem_map.mp hx
      have := htg' j (List.mem_range.mp hj)
      have hw : (wordL j).length ≤ 6 := by unfold wordL; split <;> decide
      have := flatten_le (ls := List.replicate (ts.getD j 0) (wordL j)) (M := 6) (fun y hy => by rw [(List.mem_replicate.mp hy).2]; exact hw)
      rw [List.length_replicate] at this
      omega
    · rw [List.length_map, List.length_range]; omega
  · intro t26 s26 X
    exact X.ret ⟨rfl, t26, rfl⟩ (List.nil_sublist _)
end

section
open PySem PySem.W PySem.Calls PyProof.Rows
set_option linter.unusedVariables false
set_option maxHeartbeats 1000000

/-- what a mail becomes -/
def textL (rows : List (List Nat)) (e : List Nat) : List Nat := (rows.map (· ++ e)).flatten
theorem textL_cons (r : List Nat) (rows : List (List Nat)) (e : List Nat) : textL (r :: rows) e = r ++ (e ++ textL rows e) := by simp [textL]
def Clean (r : List Nat) : Prop := ∀ c ∈ r, c ≠ 10 ∧ c ≠ 13
theorem fixL_cln {c : Nat} (h : c ≠ 10 ∧ c ≠ 13) (r : List Nat) : fixL (c :: r) = c :: fixL r := by
  rw [fixL, if_neg (by omega)]
  intro r' h1; exact absurd h1 h.2
theorem fixL_clean {x : List Nat} (h : Clean x) (y : List Nat) : fixL (x ++ y) = x ++ fixL y := by
  induction x with
  | nil => rfl
  | cons c r ih => rw [List.cons_append, fixL_cln (h c (.head _)), ih fun d hd => h d (.tail _ hd)]; rfl
theorem fixL_end {e : List Nat} (he : Ends e) {y : List Nat} (hy : e = [13] → y.head? ≠ some 10) : fixL (e ++ y) = [13, 10] ++ fixL y := by
  rcases he with rfl | rfl | rfl
  · cases y with
    | nil => simp [fixL]
    | cons c r =>
      have : c ≠ 10 := fun e => hy rfl (by rw [e]; rfl)
      show fixL (13 :: c :: r) = _
      rw [fixL]
      · simp
      · intro r' _ h; injection h with h; exact absurd h this
  · show fixL (10 :: y) = _
    rw [fixL]
    · simp
    · intro r' h; injection h with h; cases h
  · show fixL (13 :: 10 :: y) = _
    rw [fixL]; rfl
theorem text_head {rows : List (List Nat)} {e : List Nat} (he : e = [13]) (h : ∀ r ∈ rows, Clean r) : (textL rows e).head? ≠ some 10 := by
  cases rows with
  | nil => simp [textL]
  | cons r rows =>
    rw [textL_cons]
    cases r with
    | nil => subst he; simp
    | cons c r =>
      have := (h _ (.head _) c (.head _)).1
      simpa using this
theorem fixL_text {e : List Nat} (he : Ends e) : ∀ {rows : List (List Nat)}, (∀ r ∈ rows, Clean r) → fixL (textL rows e) = textL rows [13, 10] := by
  intro rows
  induction rows with
  | nil => intro _; simp [textL, fixL]
  | cons r rows ih =>
    intro h
    have h' : ∀ r ∈ rows, Clean r := fun x hx => h x (.tail _ hx)
    rw [textL_cons, fixL_clean (h r (.head _)), fixL_end he (fun e1 => text_head e1 h'), ih h', textL_cons]
def dotR : List Nat → List Nat
  | 46 :: r => 46 :: 46 :: r
  | r => r
theorem dotL_false {x : List Nat} (h : Clean x) (y : List Nat) : dotL false (x ++ (13 :: 10 :: y)) = x ++ (13 :: 10 :: dotL true y) := by
  induction x with
  | nil => simp [dotL]
  | cons c r ih =>
    have hc := (h c (.head _)).1
    rw [List.cons_append, dotL, if_neg (by simp), show (c == 10) = false by simpa using hc, ih fun d hd => h d (.tail _ hd)]
    rfl
theorem dotL_true {x : List Nat} (h : Clean x) (y : List Nat) : dotL true (x ++ (13 :: 10 :: y)) = dotR x ++ (13 :: 10 :: dotL true y) := by
  cases x with
  | nil => simp [dotL, dotR]
  | cons c r =>
    have hc := (h c (.head _)).1
    have hr := dotL_false (x := r) (fun d hd => h d (.tail _ hd)) y
    rw [List.cons_append, dotL]
    by_cases h46 : c = 46
    · subst h46
      rw [if_pos ⟨rfl, rfl⟩, hr]; rfl
    · rw [if_neg (by simp [h46]), show (c == 10) = false by simpa using hc, hr]
      have : dotR (c :: r) = c :: r := by unfold dotR; split
                                          · rename_i h1; injection h1 with h1; exact absurd h1 h46
                                          · rfl
      rw [this]; rfl
theorem dotL_text : ∀ {rows : List (List Nat)}, (∀ r ∈ rows, Clean r) → dotL true (textL rows [13, 10]) = textL (rows.map dotR) [13, 10] := by
  intro rows
  induction rows with
  | nil => intro _; simp [textL, dotL]
  | cons r rows ih =>
    intro h
    rw [textL_cons, List.cons_append, List.cons_append, List.nil_append, dotL_true (h r (.head _)), ih fun x hx => h x (.tail _ hx), List.map_cons, textL_cons]
    rfl
theorem quoteL_text {e : List Nat} (he : Ends e) {rows : List (List Nat)} (h : ∀ r ∈ rows, Clean r) : quoteL (textL rows e) = textL (rows.map dotR) [13, 10] := by
  unfold quoteL
  rw [fixL_text he h, dotL_text h]

/-- parts that make a mail -/
inductive Val : List Nat → Prop
  | nil : Val []
  | cons {k l : Nat} {r : List Nat} : 1 ≤ k → 1 ≤ l → Val r → Val (k :: l :: r)
theorem clean_row (k l : Nat) : Clean (rowL k l) := by
  intro c hc
  unfold rowL at hc
  rcases List.mem_append.mp hc with hc | hc
  · rcases List.mem_append.mp hc with hc | hc
    · rw [(List.mem_replicate.mp hc).2]; decide
    · rcases List.mem_cons.mp hc with rfl | hc
      · decide
      · cases hc
  · rw [(List.mem_replicate.mp hc).2]; decide
theorem clean_rows (t : Nat) : ∀ (P : List Nat), ∀ r ∈ rowsL t P, Clean r
  | [], r, h => by cases h
  | [_], r, h => by cases h
  | k :: l :: P, r, h => by
    rw [rowsL] at h
    rcases List.mem_cons.mp h with rfl | h
    · exact clean_row _ _
    · exact clean_rows t P r h
theorem dot_row {k : Nat} (h : 1 ≤ k) (l : Nat) : dotR (rowL k l) = rowL (k + 1) l := by
  obtain ⟨j, rfl⟩ : ∃ j, k = j + 1 := ⟨k - 1, by omega⟩
  unfold rowL
  rw [List.replicate_succ, List.replicate_succ (n := j + 1), List.replicate_succ]
  rfl
theorem dot_rows {t : Nat} {P : List Nat} (h : Val P) : (rowsL t P).map dotR = rowsL (t + 1) P := by
  induction h with
  | nil => rfl
  | cons hk hl h ih => rw [rowsL, rowsL, List.map_cons, ih, dot_row (by omega)]; rfl
theorem times_mail {c : Nat} (h1 : c ≠ 10) (h2 : c ≠ 13) {P e : List Nat} (hP : Val P) (he : Ends e) {t : Nat} (ht : t ≤ 2) : timesL t (mailL [97, c] P 0 e) = mailL [97, c] P t [13, 10] := by
  have hc : ∀ t, ∀ r ∈ [[97, c], []] ++ rowsL t P, Clean r := by
    intro t r hr
    rcases List.mem_append.mp hr with hr | hr
    · rcases List.mem_cons.mp hr with rfl | hr
      · intro d hd
        rcases List.mem_cons.mp hd with rfl | hd
        · decide
        · rcases List.mem_cons.mp hd with rfl | hd
          · exact ⟨h1, h2⟩
          · cases hd
      · rcases List.mem_cons.mp hr with rfl | hr
        · intro d hd; cases hd
        · cases hr
    · exact clean_rows t P r hr
  have hq : ∀ t e, Ends e → quoteL (textL ([[97, c], []] ++ rowsL t P) e) = textL ([[97, c], []] ++ rowsL (t + 1) P) [13, 10] := by
    intro t e he
    rw [quoteL_text he (hc t), List.map_append, dot_rows hP]
    rfl
  show timesL t (textL ([[97, c], []] ++ rowsL 0 P) e) = textL ([[97, c], []] ++ rowsL t P) [13, 10]
  have : t = 0 ∨ t = 1 ∨ t = 2 := by omega
  unfold timesL
  rcases this with rfl | rfl | rfl
  · rw [if_pos rfl]; exact fixL_text he (hc 0)
  · rw [if_neg (by decide)]; exact hq 0 e he
  · rw [if_neg (by decide)]
    show quoteL (quoteL (textL ([[97, c], []] ++ rowsL 0 P) e)) = _
    rw [hq 0 e he, hq 1 _ (.inr (.inr rfl))]

/-- order -/
theorem lt_same (c : Nat) (X Y : List Nat) : (c :: X < c :: Y) ↔ X < Y := by
  rw [List.cons_lt_cons_iff]
  simp
theorem lt_app (Z X Y : List Nat) : (Z ++ X < Z ++ Y) ↔ X < Y := by
  induction Z with
  | nil => rfl
  | cons c Z ih => rw [List.cons_append, List.cons_append, lt_same, ih]
theorem lt_rep_l {c x : Nat} (hx : x ≠ c) : ∀ {a b : Nat} (X Y : List Nat), a < b → ((List.replicate a c ++ x :: X < List.replicate b c ++ Y) ↔ x < c)
  | 0, b + 1, X, Y, _ => by
    rw [List.replicate_zero, List.nil_append, List.replicate_succ, List.cons_append, List.cons_lt_cons_iff]
    simp [hx]
  | a + 1, b + 1, X, Y, h => by
    rw [List.replicate_succ, List.replicate_succ, List.cons_append, List.cons_append, lt_same]
    exact lt_rep_l hx X Y (by omega)
theorem lt_rep_r {c y : Nat} (hy : y ≠ c) : ∀ {a b : Nat} (X Y : List Nat), b < a → ((List.replicate a c ++ X < List.replicate b c ++ y :: Y) ↔ c < y)
  | a + 1, 0, X, Y, _ => by
    rw [List.replicate_zero, List.nil_append, List.replicate_succ, List.cons_append, List.cons_lt_cons_iff]
    simp [Ne.symm hy]
  | a + 1, b + 1, X, Y, h => by
    rw [List.replicate_succ, List.replicate_succ, List.cons_append, List.cons_append, lt_same]
    exact lt_rep_r hy X Y (by omega)

theorem num_lt {P : List Nat} (h : Val P) : (numL P).1 < (numL P).2 := by
  induction h with
  | nil => decide
  | @cons k l r hk hl h ih =>
    show l * (numL r).2 + (numL r).1 < k * (l * (numL r).2 + (numL r).1) + (numL r).2
    have : 1 * (l * (numL r).2 + (numL r).1) ≤ k * (l * (numL r).2 + (numL r).1) := Nat.mul_le_mul_right _ hk
    omega
theorem num_pos {k l : Nat} {r : List Nat} (hl : 1 ≤ l) (h : Val r) : (numL r).2 ≤ l * (numL r).2 + (numL r).1 := by
  have : 1 * (numL r).2 ≤ l * (numL r).2 := Nat.mul_le_mul_right _ hl
  omega

theorem row_text (t k l : Nat) (r : List Nat) : textL (rowsL t (k :: l :: r)) [13, 10] = List.replicate (k + t) 46 ++ 97 :: (List.replicate l 46 ++ 13 :: (10 :: textL (rowsL t r) [13, 10])) := by
  rw [rowsL, textL_cons]
  simp [rowL]

theorem body_lt (t : Nat) {P Q : List Nat} (hP : Val P) (hQ : Val Q) : (textL (rowsL t P) [13, 10] < textL (rowsL t Q) [13, 10]) ↔ (numL P).1 * (numL Q).2 < (numL Q).1 * (numL P).2 := by
  induction hP generalizing Q with
  | nil =>
    cases hQ with
    | nil => simp [textL, rowsL, numL]
    | @cons k l r hk hl h =>
      rw [row_text]
      have := num_pos (k := k) hl h
      have := num_lt h
      have h1 : 0 < (numL (k :: l :: r)).1 := by show 0 < l * (numL r).2 + (numL r).1; omega
      simp only [numL] at h1 ⊢
      constructor
      · intro _; omega
      · intro _
        show [] < _
        cases hk' : List.replicate (k + t) 46 <;> simp
  | @cons k l r hk hl h ih =>
    cases hQ with
    | nil =>
      rw [row_text]
      simp only [numL, textL, rowsL, List.map_nil, List.flatten_nil]
      constructor
      · intro h; exact absurd h (List.not_lt_nil _)
      · intro h; omega
    | @cons k' l' r' hk' hl' h' =>
      have ih := ih h'
      rw [row_text, row_text]
      have a1 := num_pos (k := k) hl h
      have a2 := num_pos (k := k') hl' h'
      have b1 := num_lt h
      have b2 := num_lt h'
      simp only [numL]
      generalize (numL r).1 = p at *
      generalize (numL r).2 = q at *
      generalize (numL r').1 = p' at *
      generalize (numL r').2 = q' at *
      generalize hN : l * q + p = N at *
      generalize hN' : l' * q' + p' = N' at *
      rcases Nat.lt_trichotomy k k' with hlt | heq | hgt
      · rw [lt_rep_l (by decide) _ _ (by omega)]
        constructor
        · intro h; exact absurd h (by decide)
        · intro hh
          exfalso
          have c1 : (k + 1) * N' ≤ k' * N' := Nat.mul_le_mul_right _ hlt
          have c2 : N * ((k + 1) * N') ≤ N * (k' * N') := Nat.mul_le_mul_left _ c1
          have c3 : N' * q ≤ N' * N := Nat.mul_le_mul_left _ a1
          rw [Nat.mul_add, Nat.mul_add] at hh
          rw [Nat.add_mul, Nat.mul_add, Nat.one_mul] at c2
          rw [show N * (k * N') = N' * (k * N) by rw [← Nat.mul_assoc, Nat.mul_comm N k, Nat.mul_assoc, Nat.mul_comm N N', ← Nat.mul_assoc, Nat.mul_comm k N', Nat.mul_assoc], Nat.mul_comm N N'] at c2
          omega
      · subst heq
        rw [lt_app, lt_same]
        have key : (N * (k * N' + q') < N' * (k * N + q)) ↔ (N * q' < N' * q) := by
          rw [Nat.mul_add, Nat.mul_add, show N * (k * N') = N' * (k * N) by rw [← Nat.mul_assoc, Nat.mul_comm N k, Nat.mul_assoc, Nat.mul_comm N N', ← Nat.mul_assoc, Nat.mul_comm k N', Nat.mul_assoc]]
          omega
        rw [key]
        have e1 : N * q' = l * (q * q') + p * q' := by rw [← hN, Nat.add_mul, Nat.mul_assoc]
        have e2 : N' * q = l' * (q * q') + p' * q := by rw [← hN', Nat.add_mul, Nat.mul_assoc, Nat.mul_comm q' q]
        rw [e1, e2]
        rcases Nat.lt_trichotomy l l' with hl1 | hl1 | hl1
        · rw [lt_rep_l (by decide) _ _ hl1]
          refine ⟨fun _ => ?_, fun _ => by decide⟩
          have c1 : (l + 1) * (q * q') ≤ l' * (q * q') := Nat.mul_le_mul_right _ hl1
          have c2 : p * q' < q * q' := Nat.mul_lt_mul_of_pos_right b1 (by omega)
          rw [Nat.add_mul, Nat.one_mul] at c1
          omega
        · subst hl1
          rw [lt_app, lt_same, lt_same, ih]
          omega
        · rw [lt_rep_r (by decide) _ _ hl1]
          refine ⟨fun h => absurd h (by decide), fun hh => ?_⟩
          exfalso
          have c1 : (l' + 1) * (q * q') ≤ l * (q * q') := Nat.mul_le_mul_right _ hl1
          have c2 : p' * q < q' * q := Nat.mul_lt_mul_of_pos_right b2 (by omega)
          rw [Nat.add_mul, Nat.one_mul] at c1
          rw [Nat.mul_comm q' q] at c2
          omega
      · rw [lt_rep_r (by decide) _ _ (by omega)]
        refine ⟨fun _ => ?_, fun _ => by decide⟩
        have c1 : (k' + 1) * N ≤ k * N := Nat.mul_le_mul_right _ hgt
        have c2 : N' * ((k' + 1) * N) ≤ N' * (k * N) := Nat.mul_le_mul_left _ c1
        have c3 : N * q' ≤ N * N' := Nat.mul_le_mul_left _ a2
        have c4 : 0 < N' * q := Nat.mul_pos (by omega) (by omega)
        rw [Nat.mul_add, Nat.mul_add]
        rw [Nat.add_mul, Nat.mul_add, Nat.one_mul] at c2
        rw [show N' * (k' * N) = N * (k' * N') by rw [← Nat.mul_assoc, Nat.mul_comm N' k', Nat.mul_assoc, Nat.mul_comm N' N, ← Nat.mul_assoc, Nat.mul_comm k' N, Nat.mul_assoc], Nat.mul_comm N' N] at c2
        omega
end

section
open PySem PySem.W PySem.Calls PyProof.Rows
set_option linter.unusedVariables false
set_option maxHeartbeats 1000000

/-- a number's text -/
inductive Tx (c t : Nat) : Nat × Nat → List Nat → Prop
  | zero : Tx c t (0, 1) []
  | one : Tx c t (1, 1) [98]
  | mail {P : List Nat} : Val P → P ≠ [] → Tx c t (numL P) (mailL [97, c] P t [13, 10])
theorem mail_text (c t : Nat) (P : List Nat) : mailL [97, c] P t [13, 10] = [97, c, 13, 10, 13, 10] ++ textL (rowsL t P) [13, 10] := by
  simp [mailL, textL]
theorem num_up {P : List Nat} (h : Val P) (hne : P ≠ []) : 0 < (numL P).1 := by
  cases h with
  | nil => exact absurd rfl hne
  | @cons k l r hk hl h =>
    have := num_pos (k := k) hl h
    have := num_lt h
    show 0 < l * (numL r).2 + (numL r).1
    omega
theorem Tx.lt_iff {c t : Nat} {n n' : Nat × Nat} {x x' : List Nat} (h : Tx c t n x) (h' : Tx c t n' x') : x < x' ↔ n.1 * n'.2 < n'.1 * n.2 := by
  cases h with
  | zero =>
    cases h' with
    | zero => simp
    | one => simp
    | mail hv hne => have := num_up hv hne; rw [mail_text]; simp; exact this
  | one =>
    cases h' with
    | zero => simp
    | one => simp
    | mail hv hne =>
      have := num_lt hv
      rw [mail_text]
      refine ⟨fun h => ?_, fun h => ?_⟩
      · rw [List.cons_append, List.cons_lt_cons_iff] at h; simp at h
      · simp only [Nat.one_mul, Nat.mul_one] at h; omega
  | mail hv hne =>
    cases h' with
    | zero => rw [mail_text]; simp
    | one =>
      have := num_lt hv
      rw [mail_text]
      refine ⟨fun _ => by simp only [Nat.one_mul, Nat.mul_one]; exact this, fun _ => ?_⟩
      rw [List.cons_append, List.cons_lt_cons_iff]; simp
    | mail hv' hne' => rw [mail_text, mail_text, lt_app, body_lt t hv hv']
theorem nlt_antisymm {x y : List Nat} (h : ¬ x < y) (h' : ¬ y < x) : x = y := List.le_antisymm (List.not_lt.mp h') (List.not_lt.mp h)
theorem Tx.eq {c t : Nat} {n n' : Nat × Nat} {x x' : List Nat} (h : Tx c t n x) (h' : Tx c t n' x') (e : n.1 * n'.2 = n'.1 * n.2) : x = x' :=
  nlt_antisymm (fun l => by have := (h.lt_iff h').mp l; omega) (fun l => by have := (h'.lt_iff h).mp l; omega)

/-- the middle of sorted texts -/
theorem rising {p : Str} {l : List Str} (h : risingS p l = true) : (p :: l).Pairwise (fun a b => ¬ b.cps.toList < a.cps.toList) := by
  induction l generalizing p with
  | nil => exact List.pairwise_singleton _ _
  | cons x r ih =>
    unfold risingS at h
    rw [Bool.and_eq_true] at h
    have h1 : ¬ x.cps.toList < p.cps.toList := by
      have := h.1
      rw [ltCps_eq] at this
      simpa using this
    have h2 := ih h.2
    refine List.pairwise_cons.mpr ⟨fun y hy => ?_, h2⟩
    rcases List.mem_cons.mp hy with rfl | hy
    · exact h1
    · have h3 := (List.pairwise_cons.mp h2).1 y hy
      exact List.not_lt.mpr (List.le_trans (List.not_lt.mp h1) (List.not_lt.mp h3))
theorem sorted_pw {l : List Str} (h : sortedS l = true) : l.Pairwise (fun a b => ¬ b.cps.toList < a.cps.toList) := by
  cases l with
  | nil => exact List.Pairwise.nil
  | cons p l => exact rising h

def below (ls : List (List Nat)) (y : List Nat) : Nat := ls.countP fun z => decide (z < y)
def upto (ls : List (List Nat)) (y : List Nat) : Nat := ls.countP fun z => decide (¬ y < z)

theorem mid_pw {ls : List (List Nat)} {y : List Nat} {k : Nat} (h : ls.Pairwise fun a b => ¬ b < a) (hy : ls[k]? = some y) : below ls y ≤ k ∧ k < upto ls y := by
  obtain ⟨hk, rfl⟩ := List.getElem?_eq_some_iff.mp hy
  have e : ls = ls.take k ++ ls[k] :: ls.drop (k + 1) := by rw [List.getElem_cons_drop, List.take_append_drop]
  have hlen : (ls.take k).length = k := by rw [List.length_take]; omega
  generalize ls[k] = y at *
  generalize ls.take k = a at *
  generalize ls.drop (k + 1) = b at *
  subst e
  obtain ⟨h1, h2, h3⟩ := List.pairwise_append.mp h
  have h4 := (List.pairwise_cons.mp h2).1
  unfold below upto
  rw [List.countP_append, List.countP_append, List.countP_cons, List.countP_cons]
  constructor
  · have c1 : b.countP (fun z => decide (z < y)) = 0 := List.countP_eq_zero.mpr fun z hz => by simpa using h4 z hz
    have c2 : a.countP (fun z => decide (z < y)) ≤ a.length := List.countP_le_length
    rw [c1, if_neg (by simp)]
    omega
  · have c1 : a.countP (fun z => decide (¬ y < z)) = a.length := List.countP_eq_length.mpr fun z hz => by simpa using h3 z hz y (.head _)
    rw [c1, if_pos (by simp)]
    omega
theorem mid {ls : List (List Nat)} {ss' : List Str} {x : Str} {k : Nat} (hp : ss'.Perm (ls.map S)) (hs : sortedS ss' = true) (hx : ss'[k]? = some x) :
    ∃ y, x = S y ∧ y ∈ ls ∧ below ls y ≤ k ∧ k < upto ls y := by
  have hm := List.mem_of_getElem? hx
  obtain ⟨y, hy, rfl⟩ := List.mem_map.mp (hp.mem_iff.mp hm)
  have hp' : (ss'.map fun x => x.cps.toList).Perm ls := by
    have := hp.map fun x : Str => x.cps.toList
    rw [List.map_map] at this
    rw [show ((fun x : Str => x.cps.toList) ∘ S) = id from rfl, List.map_id] at this
    exact this
  have := mid_pw (ls := ss'.map fun x => x.cps.toList) (y := y) (k := k) (List.pairwise_map.mpr (sorted_pw hs)) (by rw [List.getElem?_map, hx]; rfl)
  unfold below upto at this ⊢
  rw [hp'.countP_eq, hp'.countP_eq] at this
  exact ⟨y, rfl, hy, this⟩
theorem mid_uniq {ls : List (List Nat)} {k : Nat} {x y : List Nat} (hx : below ls x ≤ k ∧ k < upto ls x) (hy : below ls y ≤ k ∧ k < upto ls y) : x = y := by
  have key : ∀ {x y : List Nat}, below ls y ≤ k → k < upto ls x → ¬ x < y := by
    intro x y h1 h2 hlt
    have : upto ls x ≤ below ls y := by
      refine List.countP_mono_left fun z _ hz => ?_
      have hz : ¬ x < z := by simpa using hz
      simp only [decide_eq_true_eq]
      exact List.lt_of_le_of_lt (List.not_lt.mp hz) hlt
    omega
  exact nlt_antisymm (key hy.1 hx.2) (key hx.1 hy.2)
theorem mid_is {ls : List (List Nat)} {ss' : List Str} {x : Str} {k : Nat} {y : List Nat} (hp : ss'.Perm (ls.map S)) (hs : sortedS ss' = true) (hx : ss'[k]? = some x) (hy : below ls y ≤ k ∧ k < upto ls y) : x = S y := by
  obtain ⟨z, rfl, _, hz⟩ := mid hp hs hx
  rw [mid_uniq hz hy]
end

section
open PySem PySem.W PySem.Calls PyProof.Rows
set_option linter.unusedVariables false
set_option maxHeartbeats 1000000

def euF : Nat → Nat → Nat → List Nat
  | 0, _, _ => []
  | n + 1, p, q => if p = 0 then [] else q / p :: euF n (q % p) p
theorem euF_eq : ∀ (n p q : Nat), p ≤ n → euF n p q = euL p q
  | 0, p, q, h => by
    have : p = 0 := by omega
    subst this; rw [euL_zero]; rfl
  | n + 1, p, q, h => by
    rw [euF]
    by_cases h0 : p = 0
    · subst h0; rw [euL_zero, if_pos rfl]
    · rw [if_neg h0, euL_step h0, euF_eq n (q % p) p (by have := Nat.mod_lt q (show p > 0 by omega); omega)]

def okP : List Nat → Bool
  | [] => true
  | k :: l :: r => decide (1 ≤ k) && decide (k ≤ 20) && decide (1 ≤ l) && decide (l ≤ 20) && okP r
  | _ => false
theorem okP_val : ∀ {P : List Nat}, okP P = true → Val P ∧ (∀ q ∈ P, q ≤ 20) ∧ P.length % 2 = 0
  | [], _ => ⟨.nil, (fun _ h => nomatch h), rfl⟩
  | [_], h => by cases h
  | k :: l :: r, h => by
    unfold okP at h
    simp only [Bool.and_eq_true, decide_eq_true_eq] at h
    obtain ⟨h1, h2, h3⟩ := okP_val h.2
    refine ⟨.cons h.1.1.1.1 h.1.1.2 h1, fun q hq => ?_, by simp only [List.length_cons]; omega⟩
    rcases List.mem_cons.mp hq with rfl | hq
    · exact h.1.1.1.2
    · rcases List.mem_cons.mp hq with rfl | hq
      · exact h.1.2
      · exact h2 q hq

/-- where a step of the walk stands -/
structure Step (a b c d : Nat) (P : List Nat) : Prop where
  eq : partsL (a + c) (b + d) = P
  val : Val P
  small : ∀ q ∈ P, q ≤ 20
  even : P.length % 2 = 0
  len : P.length ≤ 20
  ne : P ≠ []
  num : numL P = (a + c, b + d)
  pos : 0 < a + c
  le : a + c ≤ b + d
  top : b + d ≤ 2 ^ 20
  lo : a * (b + d) < (a + c) * b
  hi : (a + c) * d < c * (b + d)
def stepB (a b c d : Nat) : Bool :=
  let P := evenL (euF (a + c) (a + c) (b + d))
  okP P && decide (P.length ≤ 20) && decide (P.length ≠ 0) && decide (numL P = (a + c, b + d)) && decide (0 < a + c) && decide (a + c ≤ b + d) && decide (b + d ≤ 2 ^ 20) && decide (a * (b + d) < (a + c) * b) && decide ((a + c) * d < c * (b + d))
theorem stepB_ok {a b c d : Nat} (h : stepB a b c d = true) : ∃ P, Step a b c d P := by
  unfold stepB at h
  simp only [Bool.and_eq_true, decide_eq_true_eq] at h
  obtain ⟨⟨⟨⟨⟨⟨⟨⟨h1, h2⟩, h3⟩, h4⟩, h5⟩, h6⟩, h7⟩, h8⟩, h9⟩ := h
  obtain ⟨v1, v2, v3⟩ := okP_val h1
  refine ⟨_, ⟨?_, v1, v2, v3, h2, fun e => h3 (by rw [e]; rfl), h4, h5, h6, h7, h8, h9⟩⟩
  rw [partsL, euF_eq _ _ _ (Nat.le_refl _)]
def walkB : List Bool → Nat → Nat → Nat → Nat → Nat × Nat → Bool
  | [], a, b, c, d, T => stepB a b c d && decide (T = (a + c, b + d))
  | true :: ms, a, b, c, d, T => stepB a b c d && decide ((a + c) * T.2 < T.1 * (b + d)) && walkB ms (a + c) (b + d) c d T
  | false :: ms, a, b, c, d, T => stepB a b c d && decide (T.1 * (b + d) < (a + c) * T.2) && walkB ms a b (a + c) (b + d) T

theorem walkB_step {bs : List Bool} {a b c d : Nat} {T : Nat × Nat} (h : walkB bs a b c d T = true) : ∃ P, Step a b c d P := by
  refine stepB_ok ?_
  cases bs with
  | nil => simp only [walkB, Bool.and_eq_true] at h; exact h.1
  | cons x r => cases x <;> (simp only [walkB, Bool.and_eq_true] at h; exact h.1.1)
def boolsL (rs : List Nat) : List Bool := ((List.range rs.length).map fun j => List.replicate (rs.getD j 0) (decide (j % 2 = 1))).flatten
def wordsL (bs : List Bool) : List Nat := (bs.map fun b => if b = true then rightL else leftL).flatten
theorem words_bools (rs : List Nat) : movesL rs = wordsL (boolsL rs) := by
  unfold movesL wordsL boolsL
  induction List.range rs.length with
  | nil => rfl
  | cons j r ih =>
    rw [List.map_cons, List.flatten_cons, ih, List.map_cons, List.flatten_cons, List.map_append, List.flatten_append]
    congr 1
    rw [List.map_replicate]
    unfold wordL
    by_cases h : j % 2 = 1 <;> simp [h]

theorem all_two : ([0, 1, 2].all fun m => [1, 2, 3].all fun a => [1, 2, 3].all fun b => let T := bumpL m [a, b]; walkB (boolsL (trimL T)) 0 1 1 1 (numL T) && decide ((boolsL (trimL T)).length ≤ 100)) = true := by decide +kernel
theorem all_four : ([0, 1, 2].all fun m => [1, 2, 3].all fun a => [1, 2, 3].all fun b => [1, 2, 3].all fun c => [1, 2, 3].all fun d => let T := bumpL m [a, b, c, d]; walkB (boolsL (trimL T)) 0 1 1 1 (numL T) && decide ((boolsL (trimL T)).length ≤ 100)) = true := by decide +kernel

theorem mem3 {a : Nat} (h : 1 ≤ a ∧ a ≤ 3) : a ∈ [1, 2, 3] := by
  have : a = 1 ∨ a = 2 ∨ a = 3 := by omega
  rcases this with rfl | rfl | rfl <;> decide
theorem mem2 {a : Nat} (h : a ≤ 2) : a ∈ [0, 1, 2] := by
  have : a = 0 ∨ a = 1 ∨ a = 2 := by omega
  rcases this with rfl | rfl | rfl <;> decide
theorem Parts.cases {ps : List Nat} (h : Parts ps) : (∃ a b, ps = [a, b] ∧ (1 ≤ a ∧ a ≤ 3) ∧ (1 ≤ b ∧ b ≤ 3)) ∨ (∃ a b c d, ps = [a, b, c, d] ∧ (1 ≤ a ∧ a ≤ 3) ∧ (1 ≤ b ∧ b ≤ 3) ∧ (1 ≤ c ∧ c ≤ 3) ∧ (1 ≤ d ∧ d ≤ 3)) := by
  obtain ⟨hl, ho⟩ := h
  match ps, hl, ho with
  | [a, b], _, ho => exact .inl ⟨a, b, rfl, ho a (by simp), ho b (by simp)⟩
  | [a, b, c, d], _, ho => exact .inr ⟨a, b, c, d, rfl, ho a (by simp), ho b (by simp), ho c (by simp), ho d (by simp)⟩
  | [], hl, _ => simp at hl
  | [_], hl, _ => simp at hl
  | [_, _, _], hl, _ => simp at hl
  | _ :: _ :: _ :: _ :: _ :: r, hl, _ => simp only [List.length_cons] at hl; omega

theorem bump2 (m a b : Nat) : bumpL m [a, b] = [a + m, b] := rfl
theorem bump4 (m a b c d : Nat) : bumpL m [a, b, c, d] = [a + m, b, c + m, d] := by simp [bumpL, List.range_succ]
/-- all that the walk asks of the mail looked for -/
theorem goal_ok {ps : List Nat} (h : Parts ps) {k : Nat} (hk : k ≤ 2) (hd : List Nat) : ∃ T, T = bumpL (2 - k) ps ∧ Val T ∧ T ≠ [] ∧ mailL hd ps 2 [13, 10] = mailL hd T k [13, 10] ∧ walkB (boolsL (trimL T)) 0 1 1 1 (numL T) = true ∧ (boolsL (trimL T)).length ≤ 100 := by
  rcases h.cases with ⟨a, b, rfl, ha, hb⟩ | ⟨a, b, c, d, rfl, ha, hb, hc, hd'⟩
  · refine ⟨_, rfl, ?_, by rw [bump2]; simp, ?_, ?_⟩
    · rw [bump2]; exact .cons (by omega) hb.1 .nil
    · rw [bump2]
      unfold mailL
      simp only [rowsL]
      rw [show a + (2 - k) + k = a + 2 by omega]
    · have := all_two
      simp only [List.all_eq_true, Bool.and_eq_true, decide_eq_true_eq] at this
      exact this _ (mem2 (by omega)) a (mem3 ha) b (mem3 hb)
  · refine ⟨_, rfl, ?_, by rw [bump4]; simp, ?_, ?_⟩
    · rw [bump4]; exact .cons (by omega) hb.1 (.cons (by omega) hd'.1 .nil)
    · rw [bump4]
      unfold mailL
      simp only [rowsL]
      rw [show a + (2 - k) + k = a + 2 by omega, show c + (2 - k) + k = c + 2 by omega]
    · have := all_four
      simp only [List.all_eq_true, Bool.and_eq_true, decide_eq_true_eq] at this
      exact this _ (mem2 (by omega)) a (mem3 ha) b (mem3 hb) c (mem3 hc) d (mem3 hd')
theorem Parts.val {ps : List Nat} (h : Parts ps) : Val ps ∧ ps ≠ [] := by
  rcases h.cases with ⟨a, b, rfl, ha, hb⟩ | ⟨a, b, c, d, rfl, ha, hb, hc, hd'⟩
  · exact ⟨.cons ha.1 hb.1 .nil, by simp⟩
  · exact ⟨.cons ha.1 hb.1 (.cons hc.1 hd'.1 .nil), by simp⟩

/-- words and their blanks -/
theorem countIn_is (l : List Nat) (c : Nat) : Spec.countIn (.str ⟨#[c]⟩) (l.map fun n => PyData.str ⟨#[n]⟩) = (l.count c : Int) := by
  induction l with
  | nil => rfl
  | cons x r ih =>
    rw [List.map_cons, Spec.countIn, ih, List.count_cons]
    have hs : Spec.same (PyData.str ⟨#[x]⟩) (PyData.str ⟨#[c]⟩) = (x == c) := by
      simp only [Spec.same]
      by_cases h : x = c
      · subst h; simp
      · rw [show (x == c) = false by simpa using h, beq_eq_false_iff_ne]
        intro e
        have := congrArg (fun s : Str => s.cps.toList) e
        simp at this; exact h this
    simp only [hs]
    by_cases h : (x == c) = true
    · rw [if_pos h, if_pos h]; omega
    · rw [if_neg h, if_neg h]; omega
theorem count_words (bs : List Bool) : Txt.count (S (wordsL bs)) ⟨#[32]⟩ = (bs.length : Int) := by
  rw [count_is, S_cps, countIn_is]
  congr 1
  unfold wordsL
  induction bs with
  | nil => rfl
  | cons b r ih =>
    rw [List.map_cons, List.flatten_cons, List.count_append, ih, List.length_cons]
    cases b
    · show 1 + r.length = _; omega
    · show 1 + r.length = _; omega
end

section
open PySem PySem.W PySem.Calls PyProof.Rows
set_option linter.unusedVariables false
set_option maxHeartbeats 1000000

def ltN (n n' : Nat × Nat) : Bool := decide (n'.1 * n.2 < n.1 * n'.2)
def leN (n n' : Nat × Nat) : Bool := decide (n'.1 * n.2 ≤ n.1 * n'.2)
def txt (c t : Nat) (d : List Nat × List Nat) : List Nat := mailL [97, c] d.1 t [13, 10]

theorem mid_ex {ls : List (List Nat)} {k : Nat} (hk : k < ls.length) : ∃ y ∈ ls, below ls y ≤ k ∧ k < upto ls y := by
  have hp := List.mergeSort_perm ls (fun a b => decide (¬ b < a))
  have hs : (ls.mergeSort (fun a b => decide (¬ b < a))).Pairwise (fun a b => ¬ b < a) := by
    have := List.pairwise_mergeSort (le := fun a b : List Nat => decide (¬ b < a)) (fun a b c h1 h2 => by
      simp only [decide_eq_true_eq] at h1 h2 ⊢
      exact List.not_lt.mpr (List.le_trans (List.not_lt.mp h1) (List.not_lt.mp h2))) (fun a b => by
      simp only [Bool.or_eq_true, decide_eq_true_eq]
      by_cases h : b < a
      · exact .inr (List.lt_asymm h)
      · exact .inl h) ls
    exact this.imp fun h => by simpa using h
  generalize ls.mergeSort (fun a b => decide (¬ b < a)) = m at hp hs
  have hk' : k < m.length := by rw [hp.length_eq]; exact hk
  have := mid_pw hs (List.getElem?_eq_getElem hk')
  refine ⟨m[k], hp.mem_iff.mp (List.getElem_mem hk'), ?_⟩
  unfold below upto at this ⊢
  rw [hp.countP_eq, hp.countP_eq] at this
  exact this

section
variable {ds : List (List Nat × List Nat)} (hv : ∀ d ∈ ds, Val d.1 ∧ d.1 ≠ [])
include hv
theorem below_is (c t : Nat) {d : List Nat × List Nat} (hd : d ∈ ds) : below (ds.map (txt c t)) (txt c t d) = (ds.map fun d => numL d.1).countP (ltN (numL d.1)) := by
  unfold below
  rw [List.countP_map, List.countP_map]
  refine List.countP_congr fun x hx => ?_
  simp only [Function.comp, decide_eq_true_eq, ltN]
  exact (Tx.mail (hv x hx).1 (hv x hx).2).lt_iff (.mail (hv d hd).1 (hv d hd).2)
theorem upto_is (c t : Nat) {d : List Nat × List Nat} (hd : d ∈ ds) : upto (ds.map (txt c t)) (txt c t d) = (ds.map fun d => numL d.1).countP (leN (numL d.1)) := by
  unfold upto
  rw [List.countP_map, List.countP_map]
  refine List.countP_congr fun x hx => ?_
  simp only [Function.comp, decide_eq_true_eq, leN]
  rw [← Nat.not_lt]
  exact not_congr ((Tx.mail (hv d hd).1 (hv d hd).2).lt_iff (.mail (hv x hx).1 (hv x hx).2))

def goodN (rs : List (Nat × Nat)) (j i : Nat) : Bool := decide ((rs.map fun n => rs.countP (ltN n)).getD i 0 ≤ j) && decide (j < (rs.map fun n => rs.countP (leN n)).getD i 0)
theorem good_text (c t : Nat) {j i : Nat} (hi : i < ds.length) (h : goodN (ds.map fun d => numL d.1) j i = true) : below (ds.map (txt c t)) ((ds.map (txt c t)).getD i []) ≤ j ∧ j < upto (ds.map (txt c t)) ((ds.map (txt c t)).getD i []) := by
  unfold goodN at h
  simp only [Bool.and_eq_true, decide_eq_true_eq] at h
  have e : (ds.map (txt c t)).getD i [] = txt c t ds[i] := by rw [List.getD_eq_getElem?_getD, List.getElem?_map, List.getElem?_eq_getElem hi]; rfl
  rw [e, below_is hv c t (List.getElem_mem hi), upto_is hv c t (List.getElem_mem hi)]
  simp only [List.getD_eq_getElem?_getD, List.getElem?_map, List.getElem?_eq_getElem hi, Option.map_some, Option.getD_some] at h
  exact h
theorem good_ex {j : Nat} (hj : j < ds.length) : ∃ i, i < ds.length ∧ goodN (ds.map fun d => numL d.1) j i = true := by
  obtain ⟨y, hy, h1, h2⟩ := mid_ex (ls := ds.map (txt 97 0)) (k := j) (by rw [List.length_map]; exact hj)
  obtain ⟨d, hd, rfl⟩ := List.mem_map.mp hy
  rw [below_is hv 97 0 hd] at h1
  rw [upto_is hv 97 0 hd] at h2
  obtain ⟨i, hi, rfl⟩ := List.getElem_of_mem hd
  refine ⟨i, hi, ?_⟩
  unfold goodN
  simp only [Bool.and_eq_true, decide_eq_true_eq]
  simp only [List.getD_eq_getElem?_getD, List.getElem?_map, List.getElem?_eq_getElem hi, Option.map_some, Option.getD_some]
  exact ⟨h1, h2⟩
end

/-- with the empty text and a b -/
theorem mail_head (c t : Nat) (d : List Nat × List Nat) : ∃ r, txt c t d = 97 :: r := ⟨_, by rw [txt, mail_text]; rfl⟩
theorem app_below (ls ms : List (List Nat)) (y : List Nat) : below (ls ++ ms) y = below ls y + below ms y := List.countP_append
theorem app_upto (ls ms : List (List Nat)) (y : List Nat) : upto (ls ++ ms) y = upto ls y + upto ms y := List.countP_append
theorem empty_below (r : List Nat) : below [[]] (97 :: r) = 1 ∧ upto [[]] (97 :: r) = 1 := by
  unfold below upto; constructor <;> simp
theorem b_below (r : List Nat) : below [[98]] (97 :: r) = 0 ∧ upto [[98]] (97 :: r) = 0 := by
  unfold below upto; constructor <;> simp [List.cons_lt_cons_iff]
theorem eb_below (r : List Nat) : below [[], [98]] (97 :: r) = 1 ∧ upto [[], [98]] (97 :: r) = 1 := by
  unfold below upto; constructor <;> simp [List.cons_lt_cons_iff]
end

section
open PySem PySem.W PySem.Calls PyProof.Rows
set_option maxRecDepth 100000
set_option linter.unusedVariables false
set_option maxHeartbeats 4000000

theorem ends_at2 {k : Int} (t1 t2 t3 : Tok) (h0 : 0 ≤ k) (h3 : k < 3) : ∃ x t, Ends x ∧ [Value.str (Str.ofString "\n") t1, Value.str (Str.ofString "\r") t2, Value.str (Str.ofString "\r\n") t3][k.toNat]? = some (.str (S x) t) := by
  have : k = 0 ∨ k = 1 ∨ k = 2 := by omega
  rw [cr_S, nl_S, crlf_S']
  rcases this with rfl | rfl | rfl
  · exact ⟨_, _, .inr (.inl rfl), rfl⟩
  · exact ⟨_, _, .inl rfl, rfl⟩
  · exact ⟨_, _, .inr (.inr rfl), rfl⟩
theorem Ends.len {e : List Nat} (h : Ends e) : e.length ≤ 10 := by rcases h with rfl | rfl | rfl <;> decide
theorem mail_len {hd P e : List Nat} {t : Nat} (hhd : hd.length ≤ 10) (he : e.length ≤ 10) (hP : P.length ≤ 20) (hq : ∀ q ∈ P, q ≤ 20) (ht : t ≤ 10) : (mailL hd P t e).length ≤ 2 ^ 12 := by
  unfold mailL
  refine Nat.le_trans (flatten_le (M := 70) ?_) ?_
  · intro x hx
    obtain ⟨y, hy, rfl⟩ := List.mem_map.mp hx
    rw [List.length_append]
    have : y.length ≤ 60 := by
      rcases List.mem_append.mp hy with hy | hy
      · rcases List.mem_cons.mp hy with rfl | hy
        · omega
        · rcases List.mem_cons.mp hy with rfl | hy
          · simp
          · cases hy
      · obtain ⟨i, hi, rfl⟩ := List.getElem_of_mem hy
        rw [rowsL_len] at hi
        have h1 := rowsL_at t P i hi
        rw [List.getElem?_eq_getElem (by rw [rowsL_len]; exact hi)] at h1
        rw [Option.some.inj h1]
        have hg : ∀ j, P.getD j 0 ≤ 20 := fun j => by
          by_cases hj : j < P.length
          · exact hq _ (by rw [List.getD_eq_getElem?_getD, List.getElem?_eq_getElem hj]; simp)
          · rw [List.getD_eq_getElem?_getD, List.getElem?_eq_none (by omega)]; simp
        have h2 := hg (2 * i)
        have h3 := hg (2 * i + 1)
        simp only [rowL, List.length_append, List.length_replicate, List.length_cons, List.length_nil]
        omega
    omega
  · rw [List.length_map, List.length_append, rowsL_len]
    simp only [List.length_cons, List.length_nil]
    omega

theorem words_len (bs : List Bool) : (wordsL bs).length ≤ bs.length * 6 := by
  unfold wordsL
  have := flatten_le (ls := bs.map fun b => if b = true then rightL else leftL) (M := 6) (fun x hx => by
    obtain ⟨b, _, rfl⟩ := List.mem_map.mp hx
    cases b <;> decide)
  rw [List.length_map] at this
  exact this
theorem words_snoc (bs : List Bool) (b : Bool) : wordsL (bs ++ [b]) = wordsL bs ++ (if b = true then rightL else leftL) := by simp [wordsL]

theorem med3 {x y z : List Nat} (h1 : y < z) (h2 : z < x) : below [x, y, z] z ≤ 1 ∧ 1 < upto [x, y, z] z := by
  have n1 : ¬ x < z := List.lt_asymm h2
  have n2 : ¬ z < y := List.lt_asymm h1
  have n3 : ¬ z < z := List.lt_irrefl z
  unfold below upto
  simp only [List.countP_cons, List.countP_nil, h1, h2, n1, n2, n3, not_true, not_false_eq_true, decide_true, decide_false]
  decide
theorem med3_right {g x y : List Nat} (h1 : y < x) (h2 : x < g) : below [g, x, y] x ≤ 1 ∧ 1 < upto [g, x, y] x := by
  have n1 : ¬ g < x := List.lt_asymm h2
  have n2 : ¬ x < y := List.lt_asymm h1
  have n3 : ¬ x < x := List.lt_irrefl x
  unfold below upto
  simp only [List.countP_cons, List.countP_nil, h1, h2, n1, n2, n3, not_true, not_false_eq_true, decide_true, decide_false]
  decide
theorem med3_left {g x y : List Nat} (h1 : y < x) (h2 : g < x) : ¬ below [g, x, y] x ≤ 1 := by
  have n3 : ¬ x < x := List.lt_irrefl x
  unfold below
  simp only [List.countP_cons, List.countP_nil, h1, h2, n3, decide_true, decide_false]
  decide

theorem mid_at {ls : List (List Nat)} {ss' : List Str} {x : Str} {j k : Nat} {y : List Nat} (hp : ss'.Perm (ls.map S)) (hs : sortedS ss' = true) (hx : ss'[j]? = some x) (e : j = k) (hy : below ls y ≤ k ∧ k < upto ls y) : x = S y := by
  subst e; exact mid_is hp hs hx hy
theorem way_gives {w : World} {A : Around} {s : Shared} (G : Gl w s.heap) (hA : OkA A 3) {c k : Nat} {T : List Nat} {bs : List Bool} {t0 t1 t2 t3 : Tok} (hc1 : c ≠ 10) (hc2 : c ≠ 13) (hk : k ≤ 2) (hT : Val T) (hTn : T ≠ [])
    (hW : walkB bs 0 1 1 1 (numL T) = true) (hb : bs.length ≤ 100) :
    Gives w A (call (.ref 137) [.str (S [97, c]) t0, .str (S (mailL [97, c] T k [13, 10])) t1, .int (k : Int) t2, .int ((bs.length + 1 : Nat) : Int) t3]) s (fun v objs => objs = [] ∧ ∃ t, v = .str (S (wordsL bs)) t) := by
  have hg : Tx c k (numL T) (mailL [97, c] T k [13, 10]) := .mail hT hTn
  generalize hgl : mailL [97, c] T k [13, 10] = gl at hg
  generalize numL T = nT at hg hW
  refine enter (binds := [(Str.ofString "head", .str (S [97, c]) t0), (Str.ofString "goal", .str (S gl) t1), (Str.ofString "times", .int (k : Int) t2), (Str.ofString "limit", .int ((bs.length + 1 : Nat) : Int) t3)]) G hA rfl rfl rfl rfl rfl rfl rfl rfl ?_
  intro A' s' hA' X
  with_reducible refine' x_tup5 (s₀ := s) hA'.handled ?hs ?hw ?_
  case hs => exact rfl
  case hw => exact rfl
  repeat' walk_at "go"
  rename_i ta sa Xa tb sb Xb l1 s1 X1 t4 s4 X4 t5 s5 X5 t6 s6 X6 l2 s7 X7 t8 s8 X8 t9 s9 X
  refine ⟨_, _, _, _, _, _, _, _, rfl, X, ?_⟩
  intro s10 X
  repeat' walk_at "go"
  rename_i X
  refine b_range1 X ?_
  intro r s11 u11 v11 X
  refine it_range1 X (X.get (.head _)) (by omega) ?_
  intro I s12 X
  refine for_rule (Itr.range hA'.handled I 0 1 (bs.length + 1)) (by decide)
    (fun i m cm rest => ∃ (a b c' d : Nat) (done rem : List Bool) (la lh : Addr) (ka kh : Nat) (t1' t2' t3' t4' t5' t6' t7' : Tok) (lowx highx : List Nat),
      done ++ rem = bs ∧ done.length = i ∧ walkB rem a b c' d nT = true ∧ Tx c k (a, b) lowx ∧ Tx c k (c', d) highx ∧
      m (Str.ofString "low") = some (.ref la) ∧ (la, lst [.int (a : Int) t1', .int (b : Int) t2'] ka) ∈ rest ∧ m (Str.ofString "high") = some (.ref lh) ∧ (lh, lst [.int (c' : Int) t3', .int (d : Int) t4'] kh) ∈ rest ∧
      m (Str.ofString "low_text") = some (.str (S lowx) t5') ∧ m (Str.ofString "high_text") = some (.str (S highx) t6') ∧ m (Str.ofString "way") = some (.str (S (wordsL done)) t7') ∧
      m (Str.ofString "head") = some (.str (S [97, c]) t0) ∧ m (Str.ofString "goal") = some (.str (S gl) t1) ∧ m (Str.ofString "times") = some (.int (k : Int) t2))
    (fun i m cm rest s o h X => trivial) (fun f s h => h)
    ⟨0, 1, 1, 1, [], bs, l1, l2, 0, 0, ta, tb, t5, t6, t4, t8, t9, [], [98], rfl, rfl, hW, .zero, .one, rfl, .tail _ (.tail _ (.head _)), rfl, .tail _ (.head _), by rw [← empty_S]; rfl, by rw [← b_S]; rfl, by rw [show wordsL [] = [] from rfl, ← empty_S]; rfl, rfl, rfl, rfl⟩ rfl X ?_ ?_
  · rintro i m cm rest s13 o v E' hi ⟨a, b, c', d, done, rem, la, lh, ka, kh, u1, u2, u3, u4, u5, u6, u7, lowx, highx, hdr, hdl, hwb, hlow, hhigh, m1, o1, m2, o2, m3, m4, m5, m6, m7, m8⟩ hv ho X
    obtain ⟨tz, rfl⟩ := hv
    obtain ⟨P, hst⟩ := walkB_step hwb
    repeat' walk_at "go"
    rename_i X
    refine sub_list (lst_is (X.get (.tail _ o1))) (by decide) (by decide) rfl ?_
    repeat' walk_at "go"
    rename_i X
    refine sub_list (lst_is (X.get (.tail _ o2))) (by decide) (by decide) rfl ?_
    repeat' walk_at "go"
    rename_i X
    refine sub_list (lst_is (X.get (.tail _ o1))) (by decide) (by decide) rfl ?_
    repeat' walk_at "go"
    rename_i X
    refine sub_list (lst_is (X.get (.tail _ o2))) (by decide) (by decide) rfl ?_
    repeat' walk_at "go"
    rename_i lhere _ _ _ _ _ _ X
    refine sub_list (lst_is (X.get (.head _))) (by decide) (by decide) rfl ?_
    repeat' walk_at "go"
    rename_i X
    refine sub_list (lst_is (X.get (.head _))) (by decide) (by decide) rfl ?_
    repeat' walk_at "go"
    refine ⟨(X.gl G).K, ?_⟩
    refine (parts_gives (p := a + c') (q := b + d) (X.gl G) hA' hst.pos hst.le hst.top).use X ?_
    rintro _ _ s20 ⟨lp, pvs, kp, rfl, rfl, hpv⟩ X
    rw [hst.eq] at hpv
    repeat' walk_at "go"
    rename_i tc1 _ _ te1 _ _ te2 _ _ te3 _ _ le _ _ _ _ _ _ _ X
    obtain ⟨e, te, he, hee⟩ := ends_at2 (k := (0 + (i : Int) * 1) % 3) te1 te2 te3 (by omega) (by omega)
    refine sub_list (lst_is (X.get (.head _))) (by omega) (by omega) hee ?_
    repeat' walk_at "go"
    refine ⟨(X.gl G).K, ?_⟩
    refine (mail_gives (more := 0) (X.gl G) hA' (lst_is (X.get (.tail _ (.head _)))) hpv (Nat.le_trans hst.len (by decide)) hst.even (fun q hq => Nat.le_trans (hst.small q hq) (by decide)) (by decide) (by simp) he.len).use0 X ?_
    rintro _ s21 ⟨tm, rfl⟩ X
    repeat' walk_at "go"
    rename_i X
    refine ⟨(X.gl G).K, ?_⟩
    refine (times_gives (X.gl G) hA' hk (mail_len (by simp) he.len hst.len hst.small (by decide))).use0 X ?_
    rintro _ s22 ⟨tt, rfl⟩ X
    rw [times_mail hc1 hc2 hst.val he hk]
    have hx : Tx c k (a + c', b + d) (mailL [97, c] P k [13, 10]) := by rw [← hst.num]; exact .mail hst.val hst.ne
    generalize mailL [97, c] P k [13, 10] = tx at hx
    have hlo : lowx < tx := (hlow.lt_iff hx).mpr hst.lo
    have hhi : tx < highx := (hx.lt_iff hhigh).mpr hst.hi
    repeat' walk_at "go"
    rename_i lrow _ _ _ X
    refine ⟨(X.gl G).K, ?_⟩
    have hS : StrsAre [.str (S highx) u6, .str (S lowx) u5, .str (S tx) tt] ([highx, lowx, tx].map S) := .cons _ _ (.cons _ _ (.cons _ _ .nil))
    refine (median_low_gives (X.gl G) (hA'.mono (by decide)) (lst_is (X.get (.head _))) hS (by simp) (by simp)).use0 X ?_
    rintro _ s23 ⟨ss1, x1, tx1, p1, q1, r1, rfl⟩ X
    obtain rfl := mid_at (k := 1) p1 q1 r1 (by simp) (med3 hlo hhi)
    repeat' walk_at "go"
    refine ⟨fun h => absurd h (by simp), fun _ => ?_⟩
    repeat' walk_at "go"
    refine ⟨(X.gl G).K, ?_⟩
    refine (median_high_gives (X.gl G) (hA'.mono (by decide)) (lst_is (X.get (.head _))) hS (by simp) (by simp)).use0 X ?_
    rintro _ s24 ⟨ss2, x2, tx2, p2, q2, r2, rfl⟩ X
    obtain rfl := mid_at (k := 1) p2 q2 r2 (by simp) (med3 hlo hhi)
    repeat' walk_at "go"
    refine ⟨fun h => absurd h (by simp), fun _ => x_nil ?_⟩
    repeat' walk_at "go"
    have hS2 : StrsAre [.str (S gl) t1, .str (S tx) tt, .str (S lowx) u5] ([gl, tx, lowx].map S) := .cons _ _ (.cons _ _ (.cons _ _ .nil))
    cases rem with
    | nil =>
      simp only [walkB, Bool.and_eq_true, decide_eq_true_eq] at hwb
      have e1 : tx = gl := hx.eq hg (by rw [hwb.2, Nat.mul_comm])
      have e2 : done = bs := by rw [← hdr, List.append_nil]
      refine ⟨fun _ => ?_, fun h => absurd h (by rw [e1]; simp)⟩
      repeat' walk_at "go"
      exact X.ret ⟨rfl, u7, by rw [e2]; rfl⟩ (List.nil_sublist _)
    | cons x ms =>
      cases x with
      | true =>
        simp only [walkB, Bool.and_eq_true, decide_eq_true_eq] at hwb
        have hlt : tx < gl := (hx.lt_iff hg).mpr hwb.1.2
        have hne : (S tx == S gl) = false := by
          rw [beq_eq_false_iff_ne]
          intro e
          rw [S_inj e] at hlt
          exact List.lt_irrefl _ hlt
        refine ⟨fun h => absurd h (by rw [hne]; decide), fun _ => x_nil ?_⟩
        repeat' walk_at "go"
        rename_i lmed _ X
        refine ⟨(X.gl G).K, ?_⟩
        refine (median_gives (X.gl G) (hA'.mono (by decide)) (lst_is (X.get (.head _))) hS2 (by simp) (by simp)).use0 X ?_
        rintro _ s25 ⟨ss3, x3, tx3, p3, q3, r3, rfl⟩ X
        obtain rfl := mid_at (k := 1) p3 q3 r3 (by simp) (med3_right hlo hlt)
        repeat' walk_at "go"
        refine ⟨fun _ => ?_, fun h => absurd h (by simp)⟩
        with_reducible refine' x_swap3 (s₀ := s) hA'.handled ?hs ?hw ?_
        case hs => exact rfl
        case hw => exact rfl
        repeat' walk_at "go"
        rename_i X
        rw [right_S]
        have hwl := words_len done
        have hdl2 : done.length ≤ 100 := by have := congrArg List.length hdr; rw [List.length_append] at this; omega
        refine s_add X (by rw [S_len, S_len]; show _ + 6 ≤ 2 ^ 24; omega) ?_
        intro tw s26 X
        rw [S_app]
        repeat' walk_at "go"
        refine ⟨_, _, _, _, _, _, rfl, X, ?_⟩
        intro s27 X
        repeat' walk_at "go"
        rename_i X
        refine x_nil (x_nil ⟨_, _, _, ⟨a + c', b + d, c', d, done ++ [true], ms, lhere, lh, 0, kh, _, _, u3, u4, tt, u6, tw, tx, highx, by rw [← hdr, List.append_assoc]; rfl, by rw [List.length_append, hdl]; rfl, hwb.2, hx, hhigh, ?_, .head _, ?_, .tail _ o2, ?_, ?_, ?_, ?_, ?_, ?_⟩, (X.sub (.cons _ (.cons _ (.cons _ (.cons _ (List.Sublist.refl _)))))).perm (List.Perm.swap _ _ _)⟩)
        all_goals first | exact rfl | assumption | (rw [words_snoc]; exact rfl)
      | false =>
        simp only [walkB, Bool.and_eq_true, decide_eq_true_eq] at hwb
        have hlt : gl < tx := (hg.lt_iff hx).mpr hwb.1.2
        have hne : (S tx == S gl) = false := by
          rw [beq_eq_false_iff_ne]
          intro e
          rw [S_inj e] at hlt
          exact List.lt_irrefl _ hlt
        refine ⟨fun h => absurd h (by rw [hne]; decide), fun _ => x_nil ?_⟩
        repeat' walk_at "go"
        rename_i lmed _ X
        refine ⟨(X.gl G).K, ?_⟩
        refine (median_gives (X.gl G) (hA'.mono (by decide)) (lst_is (X.get (.head _))) hS2 (by simp) (by simp)).use0 X ?_
        rintro _ s25 ⟨ss3, x3, tx3, p3, q3, r3, rfl⟩ X
        have hne3 : (x3 == S tx) = false := by
          rw [beq_eq_false_iff_ne]
          obtain ⟨y, rfl, _, hy, _⟩ := mid p3 q3 r3
          intro e
          rw [S_inj e] at hy
          exact med3_left hlo hlt (by simpa using hy)
        repeat' walk_at "go"
        refine ⟨fun h => absurd h (by rw [hne3]; decide), fun _ => ?_⟩
        with_reducible refine' x_swap3 (s₀ := s) hA'.handled ?hs ?hw ?_
        case hs => exact rfl
        case hw => exact rfl
        repeat' walk_at "go"
        rename_i X
        rw [left_S]
        have hwl := words_len done
        have hdl2 : done.length ≤ 100 := by have := congrArg List.length hdr; rw [List.length_append] at this; omega
        refine s_add X (by rw [S_len, S_len]; show _ + 5 ≤ 2 ^ 24; omega) ?_
        intro tw s26 X
        rw [S_app]
        repeat' walk_at "go"
        refine ⟨_, _, _, _, _, _, rfl, X, ?_⟩
        intro s27 X
        repeat' walk_at "go"
        rename_i X
        refine x_nil (x_nil ⟨_, _, _, ⟨a, b, a + c', b + d, done ++ [false], ms, la, lhere, ka, 0, u1, u2, _, _, u5, tt, tw, lowx, tx, by rw [← hdr, List.append_assoc]; rfl, by rw [List.length_append, hdl]; rfl, hwb.2, hlow, hx, ?_, .tail _ o1, ?_, .head _, ?_, ?_, ?_, ?_, ?_, ?_⟩, (X.sub (.cons _ (.cons _ (.cons _ (.cons _ (List.Sublist.refl _)))))).perm (List.Perm.swap _ _ _)⟩)
        all_goals first | exact rfl | assumption | (rw [words_snoc]; exact rfl)
  · rintro m cm rest s13 ⟨a, b, c', d, done, rem, la, lh, ka, kh, u1, u2, u3, u4, u5, u6, u7, lowx, highx, hdr, hdl, hwb, hlow, hhigh, m1, o1, m2, o2, m3, m4, m5, m6, m7, m8⟩ X
    exfalso
    have := congrArg List.length hdr
    rw [List.length_append] at this
    omega
end

section
open PySem PySem.W PySem.Calls PyProof.Rows
set_option maxRecDepth 100000
set_option linter.unusedVariables false
set_option maxHeartbeats 4000000


/-- what the ledger tells of the drawn mails and of their numbers -/
def DrawnL (led : Led) (y : Value) (d : List Nat × List Nat) : Prop := ∃ l p t k pvs, y = .ref l ∧ (l, lst [.ref p, .str (S d.2) t] 0) ∈ led ∧ (p, lst pvs k) ∈ led ∧ IntsOf pvs d.1 ∧ Parts d.1 ∧ Ends d.2
def RatioL (led : Led) (y : Value) (n : Nat × Nat) : Prop := ∃ l k t u, y = .ref l ∧ (l, lst [.int (n.1 : Int) t, .int (n.2 : Int) u] k) ∈ led
theorem DrawnL.mono {led led' : Led} (h : ∀ p ∈ led, p ∈ led') {y : Value} {d : List Nat × List Nat} (x : DrawnL led y d) : DrawnL led' y d := by
  obtain ⟨l, p, t, k, pvs, h1, h2, h3, h4⟩ := x
  exact ⟨l, p, t, k, pvs, h1, h _ h2, h _ h3, h4⟩
theorem RatioL.mono {led led' : Led} (h : ∀ p ∈ led, p ∈ led') {y : Value} {d : Nat × Nat} (x : RatioL led y d) : RatioL led' y d := by
  obtain ⟨l, k, t, u, h1, h2⟩ := x
  exact ⟨l, k, t, u, h1, h _ h2⟩
theorem Paired.imp {α β : Type} {F F' : α → β → Prop} (h : ∀ a b, F a b → F' a b) {l : List α} {l' : List β} (x : Paired F l l') : Paired F' l l' := by
  induction x with
  | nil => exact .nil
  | cons h1 _ ih => exact .cons (h _ _ h1) ih
theorem Paired.item {α β : Type} {F : α → β → Prop} {l : List α} {l' : List β} (x : Paired F l l') (i : Nat) (a : α) (h : l[i]? = some a) : ∃ b, l'[i]? = some b ∧ F a b := by
  induction x generalizing i with
  | nil => cases h
  | cons h1 _ ih =>
    cases i with
    | zero => cases h; exact ⟨_, rfl, h1⟩
    | succ i => exact ih i h
theorem outs_drawn {vs ys : List Value} {objs : Led} (h : Outs (fun v y o => Drawn y o) (fun _ => False) vs ys objs) : ∃ ds, Paired (DrawnL objs) ys ds ∧ ds.length = vs.length := by
  induction h with
  | nil => exact ⟨[], .nil, rfl⟩
  | @keep vs ys o v y o' _ hp ih =>
    obtain ⟨ds, h1, h2⟩ := ih
    obtain ⟨l, p, t, k, pvs, ps, e, rfl, rfl, h3, h4, h5⟩ := hp
    refine ⟨ds ++ [(ps, e)], Paired.snoc (Paired.imp (fun a b => DrawnL.mono fun p hp => List.mem_append_right _ hp) h1) ⟨l, p, t, k, pvs, rfl, List.mem_append_left _ (.head _), List.mem_append_left _ (.tail _ (.head _)), h3, h4, h5⟩, by simp [h2]⟩
  | skip _ hp _ => exact hp.elim
theorem ints_any {vs : List Value} {ns : List Int} (h : IntsAre vs ns) : ∀ v ∈ vs, ∃ z t, v = .int z t := by
  induction h with
  | nil => intro v hv; cases hv
  | cons n t _ ih =>
    intro v hv
    rcases List.mem_cons.mp hv with rfl | hv
    · exact ⟨n, t, rfl⟩
    · exact ih v hv
theorem lst_inj {vs vs' : List Value} {n n' : Nat} (h : lst vs n = lst vs' n') : vs = vs' := by
  unfold lst at h
  injection h with _ _ h
  injection h with h _
  simpa using h
theorem ints_fn {vs : List Value} {ns ns' : List Int} (h : IntsAre vs ns) (h' : IntsAre vs ns') : ns = ns' := by
  induction h generalizing ns' with
  | nil => cases h'; rfl
  | cons n t _ ih => cases h' with | cons n t h => rw [ih h]
theorem intsOf_fn {vs : List Value} {ps ps' : List Nat} (h : IntsOf vs ps) (h' : IntsOf vs ps') : ps = ps' := by
  have e := ints_fn h h'
  exact List.map_inj_right (fun _ _ e => Int.ofNat.inj e) |>.mp e
theorem DrawnL.fn {s₀ s : Shared} {env : Env} {m cm : Str → Option Value} {led : Led} (X : Act s₀ env m cm led s) (y : Value) (d d' : List Nat × List Nat) (h : DrawnL led y d) (h' : DrawnL led y d') : d = d' := by
  obtain ⟨l, p, t, k, pvs, rfl, h2, h3, h4, _⟩ := h
  obtain ⟨l', p', t', k', pvs', e, h2', h3', h4', _⟩ := h'
  cases e
  have e1 := lst_inj (Option.some.inj ((X.get h2).symm.trans (X.get h2')))
  simp only [List.cons.injEq, Value.ref.injEq, Value.str.injEq, and_true] at e1
  obtain ⟨rfl, e2, _⟩ := e1
  have e3 := lst_inj (Option.some.inj ((X.get h3).symm.trans (X.get h3')))
  subst e3
  exact Prod.ext (intsOf_fn h4 h4') (S_inj e2)
theorem RatioL.fn {s₀ s : Shared} {env : Env} {m cm : Str → Option Value} {led : Led} (X : Act s₀ env m cm led s) (y : Value) (d d' : Nat × Nat) (h : RatioL led y d) (h' : RatioL led y d') : d = d' := by
  obtain ⟨l, k, t, u, rfl, h2⟩ := h
  obtain ⟨l', k', t', u', e, h2'⟩ := h'
  cases e
  have e1 := lst_inj (Option.some.inj ((X.get h2).symm.trans (X.get h2')))
  simp only [List.cons.injEq, Value.int.injEq, and_true] at e1
  obtain ⟨⟨e2, _⟩, e3, _⟩ := e1
  exact Prod.ext (by omega) (by omega)
theorem Paired.unsnoc {α β : Type} {F : α → β → Prop} {l : List α} {a : α} {l' : List β} (h : Paired F (l ++ [a]) l') : ∃ r b, l' = r ++ [b] ∧ Paired F l r ∧ F a b := by
  induction l generalizing l' with
  | nil =>
    cases h with
    | cons h1 h2 => cases h2; exact ⟨[], _, rfl, .nil, h1⟩
  | cons x l ih =>
    cases h with
    | cons h1 h2 =>
      obtain ⟨r, b, rfl, h3, h4⟩ := ih h2
      exact ⟨_ :: r, b, rfl, .cons h1 h3, h4⟩
theorem outs_map {β : Type} {F : Value → β → Prop} {R : β → Value → Led → Prop} {vs ys : List Value} {objs : Led} {ds : List β} (hf : ∀ y d d', F y d → F y d' → d = d') (h : Outs (fun v y o => ∃ d, F v d ∧ R d y o) (fun _ => False) vs ys objs)
    (hd : Paired F vs ds) : Paired (fun y d => ∃ o, R d y o ∧ ∀ p ∈ o, p ∈ objs) ys ds := by
  induction h generalizing ds with
  | nil => cases hd; exact .nil
  | keep _ hp ih =>
    obtain ⟨r, b, rfl, h1, h2⟩ := Paired.unsnoc hd
    obtain ⟨d, h3, h4⟩ := hp
    cases hf _ _ _ h2 h3
    exact Paired.snoc (Paired.imp (fun a b ⟨o, ho, hs⟩ => ⟨o, ho, fun p hp => List.mem_append_right _ (hs p hp)⟩) (ih h1)) ⟨_, h4, fun p hp => List.mem_append_left _ hp⟩
  | skip _ hp _ => exact hp.elim
theorem Paired.mapR {α β γ : Type} {F : α → γ → Prop} {g : β → γ} {l : List α} {l' : List β} (h : Paired (fun a b => F a (g b)) l l') : Paired F l (l'.map g) := by
  induction h with
  | nil => exact .nil
  | cons h1 _ ih => exact .cons h1 ih
theorem Parts.small {ps : List Nat} (h : Parts ps) : ps.length ≤ 100 ∧ ps.length % 2 = 0 ∧ (∀ q ∈ ps, q ≤ 500) := ⟨by have := h.len; omega, by have := h.len; omega, fun q hq => by have := h.one q hq; omega⟩

theorem outs_count {β : Type} {F : Value → β → Prop} {c : β → Bool} {vs ys : List Value} {objs : Led} {ns : List β} (hf : ∀ y d d', F y d → F y d' → d = d')
    (h : Outs (fun v y o => o = [] ∧ ∃ n, F v n ∧ c n = true) (fun v => ∃ n, F v n ∧ c n = false) vs ys objs) (hd : Paired F vs ns) : objs = [] ∧ ys.length = ns.countP c := by
  induction h generalizing ns with
  | nil => cases hd; exact ⟨rfl, rfl⟩
  | keep _ hp ih =>
    obtain ⟨r, b, rfl, h1, h2⟩ := Paired.unsnoc hd
    obtain ⟨rfl, n, h3, h4⟩ := hp
    cases hf _ _ _ h2 h3
    obtain ⟨rfl, h5⟩ := ih h1
    exact ⟨rfl, by rw [List.countP_append, List.length_append, h5]; simp [h4]⟩
  | skip _ hp ih =>
    obtain ⟨r, b, rfl, h1, h2⟩ := Paired.unsnoc hd
    obtain ⟨n, h3, h4⟩ := hp
    cases hf _ _ _ h2 h3
    obtain ⟨rfl, h5⟩ := ih h1
    exact ⟨rfl, by rw [List.countP_append, h5]; simp [h4]⟩
theorem num_small2 : ([1, 2, 3].all fun a => [1, 2, 3].all fun b => decide ((numL [a, b]).1 ≤ 1000 ∧ (numL [a, b]).2 ≤ 1000)) = true := by decide +kernel
theorem num_small4 : ([1, 2, 3].all fun a => [1, 2, 3].all fun b => [1, 2, 3].all fun c => [1, 2, 3].all fun d => decide ((numL [a, b, c, d]).1 ≤ 1000 ∧ (numL [a, b, c, d]).2 ≤ 1000)) = true := by decide +kernel
theorem Parts.num {ps : List Nat} (h : Parts ps) : (numL ps).1 ≤ 1000 ∧ (numL ps).2 ≤ 1000 := by
  rcases h.cases with ⟨a, b, rfl, ha, hb⟩ | ⟨a, b, c, d, rfl, ha, hb, hc, hd'⟩
  · have := num_small2
    simp only [List.all_eq_true, decide_eq_true_eq] at this
    exact this a (mem3 ha) b (mem3 hb)
  · have := num_small4
    simp only [List.all_eq_true, decide_eq_true_eq] at this
    exact this a (mem3 ha) b (mem3 hb) c (mem3 hc) d (mem3 hd')
theorem paired_ints {f : Nat × Nat → Nat} {ys : List Value} {ns : List (Nat × Nat)} (h : Paired (fun y n => ∃ o : Led, (o = [] ∧ ∃ t, y = .int ((f n : Nat) : Int) t) ∧ ∀ p ∈ o, p ∈ ([] : Led)) ys ns) : IntsOf ys (ns.map f) := by
  induction h with
  | nil => exact .nil
  | cons h1 _ ih =>
    obtain ⟨o, ⟨_, t, rfl⟩, _⟩ := h1
    exact .cons _ _ ih
theorem outs_noobj {L : Led} {Q : Nat × Nat → Value → Prop} {N : Value → Prop} {vs ys : List Value} {objs : Led} (h : Outs (fun v y o => ∃ n, RatioL L v n ∧ (o = [] ∧ Q n y)) N vs ys objs) : objs = [] := by
  induction h with
  | nil => rfl
  | keep _ hp ih => obtain ⟨_, _, rfl, _⟩ := hp; rw [ih]; rfl
  | skip _ _ ih => exact ih
theorem outs_pick {g : Nat → Bool} {vs ys : List Value} {objs : Led} (h : Outs (fun v y o => o = [] ∧ ∃ (i : Nat) (t : Tok), v = .int (i : Int) t ∧ y = .int (i : Int) t ∧ g i = true) (fun v => ∃ (i : Nat) (t : Tok), v = .int (i : Int) t ∧ g i = false) vs ys objs)
    (hv : ∀ (i : Nat) v, vs[i]? = some v → ∃ t, v = .int (i : Int) t) : objs = [] ∧ (∀ y ∈ ys, ∃ (i : Nat) (t : Tok), y = .int (i : Int) t ∧ i < vs.length ∧ g i = true) ∧ (ys = [] → ∀ i, i < vs.length → g i = false) := by
  induction h with
  | nil => exact ⟨rfl, (fun _ h => nomatch h), fun _ i h => nomatch h⟩
  | @keep vs ys o v y o' _ hp ih =>
    obtain ⟨rfl, h1, h2⟩ := ih fun i v e => hv i v (by rw [List.getElem?_append_left (by exact (List.getElem?_eq_some_iff.mp e).1)]; exact e)
    obtain ⟨rfl, i, t, rfl, rfl, hg⟩ := hp
    obtain ⟨t2, e⟩ := hv vs.length (.int (i : Int) t) (by simp)
    have : i = vs.length := by have := (Value.int.inj e).1; omega
    subst this
    refine ⟨rfl, fun y hy => ?_, fun e => absurd e (by simp)⟩
    rw [List.length_append, List.length_singleton]
    rcases List.mem_append.mp hy with hy | hy
    · obtain ⟨i, t, e, hi, hg⟩ := h1 y hy
      exact ⟨i, t, e, by omega, hg⟩
    · rcases List.mem_cons.mp hy with rfl | hy
      · exact ⟨_, t, rfl, by omega, hg⟩
      · cases hy
  | @skip vs ys o v _ hp ih =>
    obtain ⟨rfl, h1, h2⟩ := ih fun i v e => hv i v (by rw [List.getElem?_append_left (by exact (List.getElem?_eq_some_iff.mp e).1)]; exact e)
    obtain ⟨i, t, rfl, hg⟩ := hp
    obtain ⟨t2, e⟩ := hv vs.length (.int (i : Int) t) (by simp)
    have : i = vs.length := by have := (Value.int.inj e).1; omega
    subst this
    rw [List.length_append, List.length_singleton]
    refine ⟨rfl, fun y hy => ?_, fun e j hj => ?_⟩
    · obtain ⟨i, t, e, hi, hg⟩ := h1 y hy
      exact ⟨i, t, e, by omega, hg⟩
    · rcases Nat.lt_or_ge j vs.length with h | h
      · exact h2 e j h
      · rw [show j = vs.length by omega]; exact hg
end

section
open PySem PySem.W PySem.Calls PyProof.Rows
set_option maxRecDepth 100000
set_option linter.unusedVariables false
set_option maxHeartbeats 4000000

theorem outs_noobjF {β : Type} {F : Value → β → Prop} {Q : β → Value → Prop} {N : Value → Prop} {vs ys : List Value} {objs : Led} (h : Outs (fun v y o => ∃ d, F v d ∧ (o = [] ∧ Q d y)) N vs ys objs) : objs = [] := by
  induction h with
  | nil => rfl
  | keep _ hp ih => obtain ⟨_, _, rfl, _⟩ := hp; rw [ih]; rfl
  | skip _ _ ih => exact ih
theorem paired_strs {β : Type} {g : β → List Nat} {objs : Led} {ys : List Value} {ds : List β} (h : Paired (fun y d => ∃ o : Led, (o = [] ∧ ∃ t, y = .str (S (g d)) t) ∧ ∀ p ∈ o, p ∈ objs) ys ds) : StrsAre ys ((ds.map g).map S) := by
  induction h with
  | nil => exact .nil
  | cons h1 _ ih =>
    obtain ⟨o, ⟨_, t, rfl⟩, _⟩ := h1
    exact .cons _ _ ih

/-- a row with what is put behind it: which two mails stand in its middle -/
structure RowOk (xs ml : List (List Nat)) (lo hi : Nat) : Prop where
  len : ml.length ≤ 2
  lo4 : lo < 4
  hi4 : hi < 4
  low : below (xs ++ ml) (xs.getD lo []) ≤ (4 + ml.length - 1) / 2 ∧ (4 + ml.length - 1) / 2 < upto (xs ++ ml) (xs.getD lo [])
  high : below (xs ++ ml) (xs.getD hi []) ≤ (4 + ml.length) / 2 ∧ (4 + ml.length) / 2 < upto (xs ++ ml) (xs.getD hi [])
def RowL (led : Led) (xs : List (List Nat)) (v : Value) : Prop := ∃ l M kl kM mvs ml lo hi t u, v = .ref l ∧ (l, lst [.ref M, .int ((lo : Nat) : Int) t, .int ((hi : Nat) : Int) u] kl) ∈ led ∧ (M, lst mvs kM) ∈ led ∧ StrsAre mvs (ml.map S) ∧ RowOk xs ml lo hi
theorem RowL.mono {led led' : Led} (h : ∀ p ∈ led, p ∈ led') {xs : List (List Nat)} {v : Value} (x : RowL led xs v) : RowL led' xs v := by
  obtain ⟨l, M, kl, kM, mvs, ml, lo, hi, t, u, h1, h2, h3, h4⟩ := x
  exact ⟨l, M, kl, kM, mvs, ml, lo, hi, t, u, h1, h _ h2, h _ h3, h4⟩
theorem rows_ok {ds : List (List Nat × List Nat)} (hv : ∀ d ∈ ds, Val d.1 ∧ d.1 ≠ []) (hdl : ds.length = 4) (c t : Nat) {one other : Nat} (h1 : one < 4) (h2 : other < 4) (g1 : goodN (ds.map fun d => numL d.1) 1 one = true) (g2 : goodN (ds.map fun d => numL d.1) 2 other = true) :
    RowOk (ds.map (txt c t)) [] one other ∧ RowOk (ds.map (txt c t)) [[], [98]] one other ∧ RowOk (ds.map (txt c t)) [[]] one one ∧ RowOk (ds.map (txt c t)) [[98]] other other := by
  have a1 := good_text hv c t (by omega) g1
  have a2 := good_text hv c t (by omega) g2
  have e : ∀ i, i < 4 → ∃ r, (ds.map (txt c t)).getD i [] = 97 :: r := fun i hi => by
    rw [List.getD_eq_getElem?_getD, List.getElem?_map, List.getElem?_eq_getElem (by omega)]
    exact mail_head c t _
  obtain ⟨r1, e1⟩ := e one h1
  obtain ⟨r2, e2⟩ := e other h2
  rw [e1] at a1
  rw [e2] at a2
  have b1 := empty_below r1
  have b2 := empty_below r2
  have b3 := b_below r1
  have b4 := b_below r2
  have b5 := eb_below r1
  have b6 := eb_below r2
  refine ⟨⟨by simp, h1, h2, ?_, ?_⟩, ⟨by simp, h1, h2, ?_, ?_⟩, ⟨by simp, h1, h1, ?_, ?_⟩, ⟨by simp, h2, h2, ?_, ?_⟩⟩ <;> (first | rw [e1] | rw [e2]) <;> rw [app_below, app_upto]
  · rw [show below [] (97 :: r1) = 0 from rfl, show upto [] (97 :: r1) = 0 from rfl]; simp only [List.length_nil]; omega
  · rw [show below [] (97 :: r2) = 0 from rfl, show upto [] (97 :: r2) = 0 from rfl]; simp only [List.length_nil]; omega
  · simp only [List.length_cons, List.length_nil]; omega
  · simp only [List.length_cons, List.length_nil]; omega
  · simp only [List.length_cons, List.length_nil]; omega
  · simp only [List.length_cons, List.length_nil]; omega
  · simp only [List.length_cons, List.length_nil]; omega
  · simp only [List.length_cons, List.length_nil]; omega
theorem strs_at {vs : List Value} {xs : List (List Nat)} (h : StrsAre vs (xs.map S)) {i : Nat} (hi : i < xs.length) : ∃ t, vs[i]? = some (.str (S (xs.getD i [])) t) := by
  have hl := StrsAre.length h
  rw [List.length_map] at hl
  obtain ⟨y, t, e, hy⟩ := StrsAre.item h i (vs[i]'(by omega)) (List.getElem?_eq_getElem _)
  rw [List.getElem?_map, List.getElem?_eq_getElem hi] at hy
  cases hy
  exact ⟨t, by rw [List.getElem?_eq_getElem (by omega), e, List.getD_eq_getElem?_getD, List.getElem?_eq_getElem hi]; rfl⟩
theorem strs_app {vs ws : List Value} {xs ys : List (List Nat)} (h : StrsAre vs (xs.map S)) (h' : StrsAre ws (ys.map S)) : StrsAre (vs ++ ws) ((xs ++ ys).map S) := by
  rw [List.map_append]
  generalize xs.map S = a at h
  induction h with
  | nil => exact h'
  | cons x t _ ih => exact .cons x t ih

theorem law_loops {w : World} {A' : Around} {s s' : Shared} {f : Addr} {oc : Value} {od : Option Addr} {osl : Array (Option Value)} {name qual : Str} {params : Arguments} {body rest : List Stmt} {scope : Scope} {dV kV doc pm cdv cdv' ct : Value} {an : Option Addr}
    (ho : (KK w).lookup 142 = some ⟨oc, od, .func (fnX name qual params body scope [] dV kV doc pm an cdv' ct), osl⟩) (hrest : body.drop 7 = rest) (G : Gl w s.heap) (hA' : OkA A' 4)
    {m cm : Str → Option Value} {led : Led} {D : Addr} {ys : List Value} {k : Nat} {ds : List (List Nat × List Nat)} {one other : Nat} {tone tother th : Tok} {ch : Nat}
    (X : Act s (envX qual scope s.heap.objs.size f cdv (cellsFrom (s.heap.objs.size + 1) scope.names [])) m cm led s')
    (hDm : (D, lst ys k) ∈ led) (hds : Paired (DrawnL led) ys ds) (hdl : ds.length = 4) (hm1 : m (Str.ofString "drawn") = some (.ref D)) (hm2 : m (Str.ofString "one") = some (.int (one : Int) tone)) (hm3 : m (Str.ofString "other") = some (.int (other : Int) tother))
    (hch : cm (Str.ofString "head") = some (.str (S [97, ch]) th)) (hc1 : ch ≠ 10) (hc2 : ch ≠ 13) (hlt1 : one < 4) (hlt2 : other < 4) (hg1 : goodN (ds.map fun d => numL d.1) 1 one = true) (hg2 : goodN (ds.map fun d => numL d.1) 2 other = true) :
    wpAny (MM w) A' (execs rest (envX qual scope s.heap.objs.size f cdv (cellsFrom (s.heap.objs.size + 1) scope.names []))) (fun fl s'' => flv fl = .bool true ∧ Keeps s s'') (fun _ _ => False) s' := by
  have ho' : (KK w).lookup 142 = some ⟨_, _, .func (fnX _ _ _ _ _ _ _ _ _ _ _ _ _), _⟩ := rfl
  rw [ho'] at ho
  injection ho with ho
  injection ho with h1 h2 h3 h4
  injection h3 with h3
  injection h3 with _ hq _ hb hsc
  injection hb with hb
  clear ho' h1 h2 h4
  subst hq hb hsc
  simp only [List.drop_succ_cons, List.drop_zero] at hrest
  subst hrest
  have hyl := Paired.length hds
  have hval : ∀ d ∈ ds, Parts d.1 ∧ Ends d.2 := by
    intro d hd
    obtain ⟨i, hi, rfl⟩ := List.getElem_of_mem hd
    obtain ⟨b, hb, hD⟩ := Paired.item hds i (ys[i]'(by omega)) (List.getElem?_eq_getElem _)
    rw [List.getElem?_eq_getElem hi] at hb
    cases hb
    obtain ⟨_, _, _, _, _, _, _, _, _, hp, he⟩ := hD
    exact ⟨hp, he⟩
  repeat' walk_at "go"
  rename_i X
  refine b_range1 (n := ((3 : Nat) : Int)) X ?_
  intro r s1 u1 v1 X
  refine it_range1 X (X.get (.head _)) (by omega) ?_
  intro I s2 X
  refine for_rule (Itr.range hA'.handled I 0 1 3) (by decide)
    (fun i m cm rest => m (Str.ofString "drawn") = some (.ref D) ∧ m (Str.ofString "one") = some (.int (one : Int) tone) ∧ m (Str.ofString "other") = some (.int (other : Int) tother) ∧ cm (Str.ofString "head") = some (.str (S [97, ch]) th) ∧
      (∀ p ∈ led, p ∈ rest) ∧ (i ≠ 0 → ∃ L svs k, m (Str.ofString "sent") = some (.ref L) ∧ (L, lst svs k) ∈ rest ∧ StrsAre svs ((ds.map (txt ch (i - 1))).map S)))
    (fun i m cm rest s o h X => trivial) (fun f s h => h)
    ⟨hm1, hm2, hm3, hch, fun p hp => .tail _ hp, fun h => absurd rfl h⟩ rfl X ?_ ?_
  · clear hm1 hm2 hm3 hch
    rintro i m cm rest s3 o v E' hi ⟨hm1, hm2, hm3, hch, hsub, _⟩ hv ho X
    obtain ⟨tz, rfl⟩ := hv
    rw [show (0 + (i : Int) * 1) = i by omega]
    have hDm' := hsub _ hDm
    have hds' : Paired (DrawnL rest) ys ds := Paired.imp (fun a b => DrawnL.mono hsub) hds
    repeat' walk_at "go"
    rename_i X
    refine lcA (s₀ := s) (fun v y o => ∃ d, DrawnL rest v d ∧ (o = [] ∧ ∃ t, y = .str (S (txt ch i d)) t)) (fun _ => False) rfl rfl rfl rfl rfl rfl (fun _ => rfl) ?_
    repeat' walk_at "go"
    refine ⟨_, _, _, _, _, _, Is _, X, Src.list hA'.handled (lst_is (X.get (.tail _ hDm'))), by omega, cells0 X rfl (am2 rfl rfl) (by simp only [List.map_cons, List.map_nil]; decide), rfl, ?_, ?_⟩
    · intro C j v s7 m' cm' led' E'' hC hj hPj hJ X7
      subst hJ
      have G1 := X.gl G
      obtain ⟨d, hd, hD⟩ := Paired.item hds' j v hPj
      obtain ⟨l, p, t, kk, pvs, rfl, h2, h3, h4, h5, h6⟩ := id hD
      have hl1 := lst_is (X.get (.tail _ h2))
      have hl2 := lst_is (X.get (.tail _ h3))
      clear X
      refine a_two X7 hA'.handled (stays_list X7.keep hl1) ?_
      intro s8 X
      repeat' walk_at "go"
      rename_i X
      refine ⟨(X.gl G1).K, ?_⟩
      refine (mail_gives (more := 0) (X.gl G1) (hA'.mono (by decide)) (stays_list X.keep hl2) h4 h5.small.1 h5.small.2.1 h5.small.2.2 (by decide) (by simp) h6.len).use0 X ?_
      rintro _ s9 ⟨tm, rfl⟩ X
      repeat' walk_at "go"
      refine ⟨(X.gl G1).K, ?_⟩
      refine (times_gives (X.gl G1) (hA'.mono (by decide)) (by omega) (mail_len (by simp) h6.len (by have := h5.len; omega) (fun q hq => by have := h5.one q hq; omega) (by decide))).use0 X ?_
      rintro _ s10 ⟨tt, rfl⟩ X
      rw [times_mail hc1 hc2 h5.val.1 h6 (by omega)]
      exact ⟨[], _, _, ⟨d, hD, rfl, tt, rfl⟩, rfl, X⟩
    intro L ws svs sobjs kL s4 hwl hPi hout X1
    have e1 := (src_eq hwl hPi).symm
    subst e1
    have e2 := outs_noobjF hout
    subst e2
    have hsv : StrsAre svs ((ds.map (txt ch i)).map S) := paired_strs (outs_map (DrawnL.fn (X.sub (.cons _ (List.Sublist.refl _)))) hout hds')
    clear hout X
    have X := X1
    clear X1
    repeat' walk_at "go"
    refine lc (s₀ := s) (fun v y o => ∃ d, DrawnL rest v d ∧ (o = [] ∧ ∃ t, y = .str (S (txt ch i d)) t)) (fun _ => False) rfl rfl rfl (fun _ => rfl) ?_
    repeat' walk_at "go"
    refine ⟨_, _, _, _, _, _, Is _, X, Src.list hA'.handled (lst_is (X.get (.tail _ (.tail _ hDm')))), by omega, cells0 X rfl (am2 rfl rfl) (by simp only [List.map_cons, List.map_nil]; decide), rfl, ?_, ?_⟩
    · intro C j v s7 m' cm' led' E'' hC hj hPj hJ X7
      subst hJ
      have G1 := X.gl G
      obtain ⟨d, hd, hD⟩ := Paired.item hds' j v hPj
      obtain ⟨l, p, t, kk, pvs, rfl, h2, h3, h4, h5, h6⟩ := id hD
      have hl1 := lst_is (X.get (.tail _ (.tail _ h2)))
      have hl2 := lst_is (X.get (.tail _ (.tail _ h3)))
      clear X
      refine a_two X7 hA'.handled (stays_list X7.keep hl1) ?_
      intro s8 X
      repeat' walk_at "go"
      rename_i X
      refine ⟨(X.gl G1).K, ?_⟩
      rw [crlf_S']
      refine (mail_gives (more := i) (X.gl G1) (hA'.mono (by decide)) (stays_list X.keep hl2) h4 h5.small.1 h5.small.2.1 h5.small.2.2 (by omega) (by simp) (by simp)).use0 X ?_
      rintro _ s9 ⟨tm, rfl⟩ X
      exact ⟨[], _, _, ⟨d, hD, rfl, tm, rfl⟩, rfl, X⟩
    intro L2 ws2 svs2 sobjs2 kL2 s5 hwl2 hPi2 hout2 X1
    have e1 := (src_eq hwl2 hPi2).symm
    subst e1
    have e2 := outs_noobjF hout2
    subst e2
    have hsv2 : StrsAre svs2 ((ds.map (txt ch i)).map S) := paired_strs (outs_map (DrawnL.fn (X.sub (.cons _ (.cons _ (List.Sublist.refl _))))) hout2 hds')
    clear hout2 X
    have X := X1
    clear X1
    repeat' walk_at "go"
    refine l_ne (by have := hA'.units; omega) (lst_is (X.get (.tail _ (.head _)))) (lst_is (X.get (.head _))) hsv hsv2 rfl ?_
    repeat' walk_at "go"
    refine ⟨fun h => absurd h (by decide), fun _ => x_nil ?_⟩
    have X := X.sub (news' := (L, lst svs kL) :: (I, o) :: rest) (.cons _ (List.Sublist.refl _))
    repeat' walk_at "go"
    rename_i M1 _ _ i1 _ _ ta _ _ tb _ _ M2 _ _ i2 _ _ tc _ _ M3 _ _ i3 _ _ td _ _ M4 _ _ i4 _ _ O so X
    generalize hxs : ds.map (txt ch i) = xs at hsv
    obtain ⟨o1, o2, o3, o4⟩ := rows_ok (fun d hd => (hval d hd).1.val) hdl ch i hlt1 hlt2 hg1 hg2
    rw [hxs] at o1 o2 o3 o4
    have hxl : xs.length = 4 := by rw [← hxs, List.length_map, hdl]
    obtain ⟨led5, X, hbase, hOm, hrows⟩ : ∃ led5, Act s _ (upd m (Str.ofString "sent") (.ref L)) (upd cm (Str.ofString "times") (.int (i : Int) tz)) led5 so ∧ ((L, lst svs kL) :: (I, o) :: rest).Sublist led5 ∧
        (O, lst [.ref i1, .ref i2, .ref i3, .ref i4] 0) ∈ led5 ∧ (∀ (j : Nat) (v : Value), [Value.ref i1, .ref i2, .ref i3, .ref i4][j]? = some v → RowL led5 xs v) := by
      refine ⟨_, X, .cons _ (.cons _ (.cons _ (.cons _ (.cons _ (.cons _ (.cons _ (.cons _ (.cons _ (List.Sublist.refl _))))))))), .head _, fun j v hj => ?_⟩
      have hjj : j = 0 ∨ j = 1 ∨ j = 2 ∨ j = 3 ∨ 4 ≤ j := by omega
      rcases hjj with rfl | rfl | rfl | rfl | hge
      · cases hj; exact ⟨i1, M1, 0, 0, [], [], one, other, tone, tother, rfl, .tail _ (.tail _ (.tail _ (.tail _ (.tail _ (.tail _ (.tail _ (.head _))))))), .tail _ (.tail _ (.tail _ (.tail _ (.tail _ (.tail _ (.tail _ (.tail _ (.head _)))))))), .nil, o1⟩
      · cases hj; exact ⟨i2, M2, 0, 0, _, [[], [98]], one, other, tone, tother, rfl, .tail _ (.tail _ (.tail _ (.tail _ (.tail _ (.head _))))), .tail _ (.tail _ (.tail _ (.tail _ (.tail _ (.tail _ (.head _)))))), by rw [empty_S, b_S]; exact .cons _ _ (.cons _ _ .nil), o2⟩
      · cases hj; exact ⟨i3, M3, 0, 0, _, [[]], one, one, tone, tone, rfl, .tail _ (.tail _ (.tail _ (.head _))), .tail _ (.tail _ (.tail _ (.tail _ (.head _)))), by rw [empty_S]; exact .cons _ _ .nil, o3⟩
      · cases hj; exact ⟨i4, M4, 0, 0, _, [[98]], other, other, tother, tother, rfl, .tail _ (.head _), .tail _ (.tail _ (.head _)), by rw [b_S]; exact .cons _ _ .nil, o4⟩
      · rw [List.getElem?_eq_none (by simp; omega)] at hj; cases hj
    have hLm : (L, lst svs kL) ∈ led5 := hbase.subset (.head _)
    clear o1 o2 o3 o4
    refine it_list X (lst_is (X.get hOm)) ?_
    intro I2 s6 X
    refine for_rule (m := upd m (Str.ofString "sent") (.ref L)) (cm := upd cm (Str.ofString "times") (.int (i : Int) tz)) (news := led5) (Itr.list hA'.handled I2 O [.ref i1, .ref i2, .ref i3, .ref i4]) (by decide)
      (fun j m cm rest2 => m (Str.ofString "drawn") = some (.ref D) ∧ m (Str.ofString "one") = some (.int (one : Int) tone) ∧ m (Str.ofString "other") = some (.int (other : Int) tother) ∧ cm (Str.ofString "head") = some (.str (S [97, ch]) th) ∧
        m (Str.ofString "sent") = some (.ref L) ∧ led5.Sublist rest2)
      (fun j m cm rest2 s o h X => lst_is (X.get (.tail _ (h.2.2.2.2.2.subset hOm)))) (fun f s h => h)
      ⟨hm1, hm2, hm3, hch, rfl, List.Sublist.refl _⟩ ⟨rfl, rfl⟩ X ?_ ?_
    · rintro j m2 cm2 rest2 s7 o2 v E2 hj ⟨n1, n2, n3, n4, n5, n6⟩ hv2 ho2 X
      obtain ⟨l, M, kl, kM, mvs, ml, lo, hi, t1, t2, rfl, r1, r2, r3, r4⟩ := hrows j v hv2
      have hml : mvs.length = ml.length := by have := StrsAre.length r3; rwa [List.length_map] at this
      have hsl : svs.length = 4 := by have := StrsAre.length hsv; rwa [List.length_map, hxl] at this
      obtain ⟨tlo, hlo⟩ := strs_at hsv (i := lo) (by rw [hxl]; exact r4.lo4)
      obtain ⟨thi, hhi⟩ := strs_at hsv (i := hi) (by rw [hxl]; exact r4.hi4)
      have hml2 := r4.len
      have hlo4 := r4.lo4
      have hhi4 := r4.hi4
      have hrow := strs_app hsv r3
      have hll : ((xs ++ ml).map S).length = 4 + ml.length := by rw [List.length_map, List.length_append, hxl]
      have hvl : (svs ++ mvs).length = 4 + ml.length := by rw [List.length_append, hsl, hml]
      refine a_three X hA'.handled (lst_is (X.get (.tail _ (n6.subset r1)))) ?_
      intro s8 X
      repeat' walk_at "go"
      rename_i X
      refine l_add X (X.get (.tail _ (n6.subset hLm))) (X.get (.tail _ (n6.subset r2))) (by omega) ?_
      intro lr s9 X
      repeat' walk_at "go"
      rename_i X
      refine ⟨(X.gl G).K, ?_⟩
      refine (median_low_gives (X.gl G) (hA'.mono (by decide)) (lst_is (X.get (.head _))) hrow (by omega) (by omega)).use0 X ?_
      rintro _ s10 ⟨ss1, x1, tx1, p1, q1, e1, rfl⟩ X
      obtain rfl := mid_at p1 q1 e1 (by rw [hll]) r4.low
      repeat' walk_at "go"
      refine sub_list (lst_is (X.get (.tail _ (.tail _ (n6.subset hLm))))) (by omega) (by omega) (by rw [show ((lo : Int)).toNat = lo by omega]; exact hlo) ?_
      repeat' walk_at "go"
      refine ⟨fun h => absurd h (by simp), fun _ => ?_⟩
      repeat' walk_at "go"
      refine ⟨(X.gl G).K, ?_⟩
      refine (median_high_gives (X.gl G) (hA'.mono (by decide)) (lst_is (X.get (.head _))) hrow (by omega) (by omega)).use0 X ?_
      rintro _ s11 ⟨ss2, x2, tx2, p2, q2, e2, rfl⟩ X
      obtain rfl := mid_at p2 q2 e2 (by rw [hll]) r4.high
      repeat' walk_at "go"
      refine sub_list (lst_is (X.get (.tail _ (.tail _ (n6.subset hLm))))) (by omega) (by omega) (by rw [show ((hi : Int)).toNat = hi by omega]; exact hhi) ?_
      repeat' walk_at "go"
      refine ⟨fun h => absurd h (by simp), fun _ => x_nil ?_⟩
      repeat' walk_at "go"
      refine b_len X (lst_is (X.get (.head _))) (by omega) ?_
      intro t12 s12 X
      repeat' walk_at "go"
      rename_i X
      refine ⟨fun hb => ⟨fun h => absurd h (by decide), fun _ => ?_⟩, fun hb => ?_⟩
      · repeat' walk_at "go"
        refine l_add X (X.get (.tail _ (.tail _ (n6.subset hLm)))) (X.get (.tail _ (.tail _ (n6.subset r2)))) (by omega) ?_
        intro lr2 s13 X
        repeat' walk_at "go"
        refine l_ne (by have := hA'.units; omega) (lst_is (X.get (.tail _ (.head _)))) (lst_is (X.get (.head _))) hrow hrow rfl ?_
        repeat' walk_at "go"
        refine ⟨fun h => absurd h (by decide), fun _ => x_nil (x_nil ⟨_, _, rest2, ⟨?_, ?_, ?_, ?_, ?_, n6⟩, X.sub (.cons _ (.cons _ (List.Sublist.refl _)))⟩)⟩
        all_goals assumption
      · have hb := of_decide_eq_true hb
        rw [hvl] at hb
        repeat' walk_at "go"
        refine ⟨(X.gl G).K, ?_⟩
        refine (median_gives (X.gl G) (hA'.mono (by decide)) (lst_is (X.get (.head _))) hrow (by omega) (by omega)).use0 X ?_
        rintro _ s14 ⟨ss3, x3, tx3, p3, q3, e3, rfl⟩ X
        obtain rfl := mid_at p3 q3 e3 (by rw [hll]; omega) r4.low
        repeat' walk_at "go"
        refine sub_list (lst_is (X.get (.tail _ (.tail _ (n6.subset hLm))))) (by omega) (by omega) (by rw [show ((lo : Int)).toNat = lo by omega]; exact hlo) ?_
        repeat' walk_at "go"
        refine ⟨fun h => absurd h (by simp), fun _ => ?_⟩
        repeat' walk_at "go"
        refine l_add X (X.get (.tail _ (.tail _ (n6.subset hLm)))) (X.get (.tail _ (.tail _ (n6.subset r2)))) (by omega) ?_
        intro lr2 s13 X
        repeat' walk_at "go"
        refine l_ne (by have := hA'.units; omega) (lst_is (X.get (.tail _ (.head _)))) (lst_is (X.get (.head _))) hrow hrow rfl ?_
        repeat' walk_at "go"
        refine ⟨fun h => absurd h (by decide), fun _ => x_nil (x_nil ⟨_, _, rest2, ⟨?_, ?_, ?_, ?_, ?_, n6⟩, X.sub (.cons _ (.cons _ (List.Sublist.refl _)))⟩)⟩
        all_goals assumption
    · rintro m2 cm2 rest2 s7 ⟨n1, n2, n3, n4, n5, n6⟩ X
      refine x_nil ⟨_, _, (L, lst svs kL) :: rest, ⟨n1, n2, n3, n4, fun p hp => .tail _ (hsub p hp), fun _ => ⟨L, svs, kL, n5, .head _, ?_⟩⟩, (X.sub (hbase.trans n6)).perm (List.Perm.swap _ _ _)⟩
      rw [show i + 1 - 1 = i by omega, hxs]
      exact hsv
  · clear hm1 hm2 hm3 hch
    rintro m cm rest s3 ⟨hm1, hm2, hm3, hch, hsub, hsent⟩ X
    obtain ⟨L, svs, kL, hL1, hL2, hL3⟩ := hsent (by decide)
    rw [show 3 - 1 = 2 from rfl] at hL3
    show wpAny _ _ (execs _ _) _ _ _
    repeat' walk_at "go"
    rename_i X
    refine b_range1 (n := ((3 : Nat) : Int)) X ?_
    intro r2 s4 u4 v4 X
    refine it_range1 X (X.get (.head _)) (by omega) ?_
    intro I2 s5 X
    refine for_rule (news := (r2, _) :: rest) (Itr.range hA'.handled I2 0 1 3) (by decide)
      (fun i m cm rest2 => m (Str.ofString "drawn") = some (.ref D) ∧ m (Str.ofString "sent") = some (.ref L) ∧ cm (Str.ofString "head") = some (.str (S [97, ch]) th) ∧ (∀ p ∈ rest, p ∈ rest2))
      (fun i m cm rest s o h X => trivial) (fun f s h => h)
      ⟨hm1, hL1, hch, fun p hp => .tail _ hp⟩ rfl X ?_ ?_
    · clear hm1 hm2 hm3 hch hL1
      rintro i m cm rest2 s6 o v E' hi ⟨hm1, hL1, hch, hsub2⟩ hv ho X
      obtain ⟨tz, rfl⟩ := hv
      rw [show (0 + (i : Int) * 1) = i by omega]
      obtain ⟨d, hd, hD⟩ := Paired.item hds i (ys[i]'(by omega)) (List.getElem?_eq_getElem _)
      obtain ⟨l, p, t, kk, pvs, hyi, h2, h3, h4, h5, h6⟩ := hD
      have hyi' : ys[i]? = some (.ref l) := by rw [List.getElem?_eq_getElem (by omega), hyi]
      have h2' := hsub2 _ (hsub _ h2)
      have h3' := hsub2 _ (hsub _ h3)
      have hD' := hsub2 _ (hsub _ hDm)
      have hL' := hsub2 _ hL2
      obtain ⟨ts, hts⟩ := strs_at hL3 (i := i) (by rw [List.length_map]; omega)
      have hgd : (ds.map (txt ch 2)).getD i [] = mailL [97, ch] d.1 2 [13, 10] := by
        rw [List.getD_eq_getElem?_getD, List.getElem?_map, hd]; rfl
      rw [hgd] at hts
      obtain ⟨T, hT, hTv, hTn, hTm, hTw, hTl⟩ := goal_ok h5 (k := i) (by omega) [97, ch]
      rw [hTm] at hts
      repeat' walk_at "go"
      rename_i X
      refine sub_list (lst_is (X.get (.tail _ hD'))) (by omega) (by omega) (by rw [show ((i : Int)).toNat = i by omega]; exact hyi') ?_
      repeat' walk_at "go"
      rename_i X
      refine sub_list (lst_is (X.get (.tail _ h2'))) (by decide) (by decide) rfl ?_
      repeat' walk_at "go"
      rename_i X
      rw [show ((2 : Int) - (i : Int)) = ((2 - i : Nat) : Int) by omega]
      refine ⟨(X.gl G).K, ?_⟩
      refine (moves_gives (X.gl G) (hA'.mono (by decide)) (lst_is (X.get (.tail _ h3'))) h4 (by have := h5.len; omega) (by have := h5.len; omega) (fun q hq => by have := h5.one q hq; omega) (by omega)).use0 X ?_
      rintro _ s7 ⟨tm, rfl⟩ X
      rw [words_bools, ← hT]
      generalize hbs : boolsL (trimL T) = bs at hTw hTl
      repeat' walk_at "go"
      rename_i X
      refine sub_list (lst_is (X.get (.tail _ hL'))) (by omega) (by omega) (by rw [show ((i : Int)).toNat = i by omega]; exact hts) ?_
      repeat' walk_at "go"
      refine PySem.GM.count ?_
      repeat' walk_at "go"
      rename_i X
      rw [show Str.ofString " " = ⟨#[32]⟩ by decide +kernel]
      refine b_count X ?_
      intro t8 s8 X
      rw [count_words]
      repeat' walk_at "go"
      rename_i X
      refine ⟨(X.gl G).K, ?_⟩
      refine (way_gives (bs := bs) (k := i) (T := T) (X.gl G) (hA'.mono (by decide)) hc1 hc2 (by omega) hTv hTn hTw hTl).use0 X ?_
      rintro _ s9 ⟨tw, rfl⟩ X
      repeat' walk_at "go"
      refine ⟨fun h => absurd h (by simp), fun _ => x_nil (x_nil ⟨_, _, rest2, ⟨?_, ?_, ?_, hsub2⟩, X⟩)⟩
      all_goals assumption
    · rintro m2 cm2 rest2 s6 ⟨_, _, _, _⟩ X
      show wpAny _ _ (execs _ _) _ _ _
      repeat' walk_at "go"
      exact wpAny_Constant_bool ⟨rfl, X.keeps⟩
end

section
open PySem PySem.W PySem.Calls PyProof.Rows
set_option maxRecDepth 100000
set_option linter.unusedVariables false
set_option maxHeartbeats 4000000

theorem law_body {w : World} {A' : Around} {s s' : Shared} {f c : Addr} {vs : List Value} {oc : Value} {od : Option Addr} {osl : Array (Option Value)} {name qual : Str} {params : Arguments} {body : List Stmt} {scope : Scope} {dV kV doc pm cdv cdv' ct : Value} {an : Option Addr}
    (ho : (KK w).lookup 142 = some ⟨oc, od, .func (fnX name qual params body scope [] dV kV doc pm an cdv' ct), osl⟩) (G : Gl w s.heap) (hA' : OkA A' 4)
    (hl : s.heap.IsList c vs.toArray) {ns : List Int} (hi' : IntsAre vs ns) (hn : vs.length ≤ 63)
    (X : Act s (envX qual scope s.heap.objs.size f cdv (cellsFrom (s.heap.objs.size + 1) scope.names [])) (bindL (fun x => scope.names.lookup x) [(Str.ofString "script", .ref c)] fun _ => none) (bindC (fun x => scope.names.lookup x) [(Str.ofString "script", .ref c)] fun _ => none) [] s') :
    wpAny (MM w) A' (execs body (envX qual scope s.heap.objs.size f cdv (cellsFrom (s.heap.objs.size + 1) scope.names []))) (fun fl s'' => flv fl = .bool true ∧ Keeps s s'') (fun _ _ => False) s' := by
  have hO := ho
  have ho' : (KK w).lookup 142 = some ⟨_, _, .func (fnX _ _ _ _ _ _ _ _ _ _ _ _ _), _⟩ := rfl
  rw [ho'] at ho
  injection ho with ho
  injection ho with h1 h2 h3 h4
  injection h3 with h3
  injection h3 with _ hq _ hb hsc
  injection hb with hb
  clear ho' h1 h2 h4
  subst hq hb hsc
  have hv := ints_any hi'
  refine lcA (s₀ := s) (fun v y o => Drawn y o) (fun _ => False) rfl rfl rfl rfl rfl rfl (fun _ => rfl) ?_
  repeat' walk_at "go"
  rename_i X
  refine b_range1 (n := ((4 : Nat) : Int)) X ?_
  intro r s1 u1 v1 X
  refine ⟨_, _, _, 4, _, _, Is _, X, Src.range1 hA'.handled (X.get (.head _)) (by omega), by omega, cells0 X rfl (am1 rfl) (by simp only [List.map_cons, List.map_nil]; decide), rfl, ?_, ?_⟩
  · intro C i v s7 m cm led E' hC hi hPi hJ X7
    obtain ⟨tz, rfl⟩ := hPi
    subst hJ
    have G1 := X.gl G
    have hl1 := stays_list X.keep hl
    clear X
    repeat' walk_at "go"
    rename_i ta _ _ tb _ _ tc _ _ td _ _ ll _ X
    obtain ⟨z, tq, hq⟩ : ∃ z tq, [Value.int 7 ta, .int 262 tb, .int 369 tc, .int 26 td][((i : Int)).toNat]? = some (.int z tq) := by
      have : i = 0 ∨ i = 1 ∨ i = 2 ∨ i = 3 := by omega
      rcases this with rfl | rfl | rfl | rfl <;> exact ⟨_, _, rfl⟩
    refine sub_list (lst_is (X.get (.head _))) (by omega) (by omega) hq ?_
    repeat' walk_at "go"
    refine e_slice (s₀ := s1) ?_
    repeat' walk_at "go"
    rename_i X
    refine ⟨_, _, _, X, ?_⟩
    intro a s8 X
    refine sub_slice X (stays_list X.keep hl1) (X.get (.head _)) (.int _ _) .none (.int _ _) (by decide) (by omega) ?_ (by with_unfolding_all rfl)
    intro l9 s9 X
    have hvv := ints_any (IntsAre.pick hi' (some (i : Int)) none (some 4))
    repeat' walk_at "go"
    refine ⟨(X.gl G1).K, ?_⟩
    refine (drawn_gives (X.gl G1) (hA'.mono (by decide)) (lst_is (X.get (.head _))) hvv (by rw [Array.length_toList]; exact Nat.le_trans (slicePick_size_le _ _ _ _) (by rw [List.size_toArray]; omega))).use X ?_
    intro y objs s10 hD X
    exact ⟨objs, _, _, hD, rfl, X.sub ((List.Sublist.refl objs).append (.cons _ (.cons _ (.cons _ (List.Sublist.refl _)))))⟩
  intro D ws ys objs k s2 hwl hPi hout X
  obtain ⟨ds, hds, hdl⟩ := outs_drawn hout
  rw [hwl] at hdl
  clear hPi hout
  generalize hLd : (D, lst ys k) :: (objs ++ _) = led at X
  have hds : Paired (DrawnL led) ys ds := Paired.imp (fun a b => DrawnL.mono fun p hp => by rw [← hLd]; exact .tail _ (List.mem_append_left _ hp)) hds
  have hDm : (D, lst ys k) ∈ led := by rw [← hLd]; exact .head _
  clear hLd
  have hyl := Paired.length hds
  repeat' walk_at "go"
  refine ⟨(X.gl G).K, ?_⟩
  refine (head_gives (X.gl G) (hA'.mono (by decide)) (stays_list X.keep hl) hv (by omega)).use0 X ?_
  rintro _ s3 ⟨ch, th, hc1, hc2, rfl⟩ X
  repeat' walk_at "go"
  rename_i X
  refine lc (s₀ := s) (fun v y o => ∃ d, DrawnL led v d ∧ ∃ l k t u, y = .ref l ∧ o = [(l, lst [.int ((numL d.1).1 : Int) t, .int ((numL d.1).2 : Int) u] k)]) (fun _ => False) rfl rfl rfl (fun _ => rfl) ?_
  repeat' walk_at "go"
  refine ⟨_, _, _, _, _, _, Is _, X, Src.list hA'.handled (lst_is (X.get hDm)), by omega, cells0 X rfl am0 .nil, rfl, ?_, ?_⟩
  · intro C i v s7 m cm led' E' hC hi hPi hJ X7
    subst hJ
    have G1 := X.gl G
    obtain ⟨d, hd, hD⟩ := Paired.item hds i v hPi
    obtain ⟨l, p, t, kk, pvs, rfl, h2, h3, h4, h5, h6⟩ := id hD
    have hl1 := lst_is (X.get h2)
    have hl2 := lst_is (X.get h3)
    refine a_two X7 hA'.handled (stays_list X7.keep hl1) ?_
    intro s8 X8
    clear X
    repeat' walk_at "go"
    rename_i X
    refine ⟨(X.gl G1).K, ?_⟩
    refine (number_gives (X.gl G1) (hA'.mono (by decide)) (stays_list X.keep hl2) h4 h5.small.1 h5.small.2.2).use X ?_
    rintro _ _ s9 ⟨ln, kn, tn, un, rfl, rfl⟩ X
    exact ⟨_, _, _, ⟨d, hD, ln, kn, tn, un, rfl, rfl⟩, rfl, X⟩
  intro R ws2 rys robjs rk s4 hwl2 hPi2 hout2 X0
  have e2 := (src_eq hwl2 hPi2).symm
  subst e2
  have hrs : Paired (RatioL robjs) rys (ds.map fun d => numL d.1) := Paired.mapR (Paired.imp (fun y d ⟨o, ⟨l, k, t, u, e, eo⟩, ho⟩ => ⟨l, k, t, u, e, ho _ (by rw [eo]; exact .head _)⟩) (outs_map (DrawnL.fn X) hout2 hds))
  have hDm2 : (D, lst ys k) ∈ (R, lst rys rk) :: (robjs ++ led) := .tail _ (List.mem_append_right _ hDm)
  have hRm : (R, lst rys rk) ∈ (R, lst rys rk) :: (robjs ++ led) := .head _
  have hds : Paired (DrawnL ((R, lst rys rk) :: (robjs ++ led))) ys ds := Paired.imp (fun a b => DrawnL.mono fun p hp => .tail _ (List.mem_append_right _ hp)) hds
  have hrs : Paired (RatioL ((R, lst rys rk) :: (robjs ++ led))) rys (ds.map fun d => numL d.1) := Paired.imp (fun a b => RatioL.mono fun p hp => .tail _ (List.mem_append_left _ hp)) hrs
  clear hDm hout2 X
  generalize (R, lst rys rk) :: (robjs ++ led) = led2 at X0 hDm2 hRm hds hrs
  have hDm := hDm2
  have X := X0
  clear X0 hDm2
  have hrl := Paired.length hrs
  rw [List.length_map, hdl] at hrl
  have hsm : ∀ n ∈ (ds.map fun d => numL d.1), n.1 ≤ 1000 ∧ n.2 ≤ 1000 := by
    intro n hn
    obtain ⟨d, hd, rfl⟩ := List.mem_map.mp hn
    obtain ⟨i, hi, rfl⟩ := List.getElem_of_mem hd
    obtain ⟨b, hb, hD⟩ := Paired.item hds i (ys[i]'(by omega)) (List.getElem?_eq_getElem _)
    rw [List.getElem?_eq_getElem hi] at hb
    cases hb
    obtain ⟨_, _, _, _, _, _, _, _, _, hp, _⟩ := hD
    exact hp.num
  generalize hrsd : (ds.map fun d => numL d.1) = rs at hrs hsm
  repeat' walk_at "go"
  rename_i s5 X
  refine lc (s₀ := s) (fun v y o => ∃ n, RatioL led2 v n ∧ (o = [] ∧ ∃ t, y = .int ((rs.countP (ltN n) : Nat) : Int) t)) (fun _ => False) rfl rfl rfl (fun _ => rfl) ?_
  repeat' walk_at "go"
  refine ⟨_, _, _, _, _, _, (fun cm => cm (Str.ofString "ratios") = some (.ref R)), X, Src.list hA'.handled (lst_is (X.get hRm)), by omega, cells2 (x1 := Str.ofString "r") (x2 := Str.ofString "s") X (fun _ => rfl) (fun _ => rfl) (am1 rfl) (by simp only [List.map_cons, List.map_nil]; decide), rfl, ?_, ?_⟩
  · intro C i v s7 m cm led' E' hC hi hPi hJ X7
    have G1 := X.gl G
    obtain ⟨n, hn, hN⟩ := Paired.item hrs i v hPi
    have hns := hsm n (List.mem_of_getElem? hn)
    obtain ⟨l, kk, t1, u1, rfl, h2⟩ := id hN
    have hl1 := lst_is (X.get h2)
    have hRl := lst_is (X.get hRm)
    have hget : ∀ a o, (a, o) ∈ led2 → s5.heap.get? a = some o := fun a o hp => X.get hp
    have hfn := RatioL.fn X
    clear X
    refine a_two X7 hA'.handled (stays_list X7.keep hl1) ?_
    intro s8 X
    have hC1 : s5.heap.objs.size ≤ C + 1 := Nat.le_succ_of_le hC
    have hC2 : s5.heap.objs.size ≤ C + 1 + 1 := Nat.le_succ_of_le hC1
    repeat' walk_at "go"
    rename_i X
    refine lc (s₀ := s5) (fun v y o => o = [] ∧ ∃ n', RatioL led2 v n' ∧ ltN n n' = true) (fun v => ∃ n', RatioL led2 v n' ∧ ltN n n' = false) rfl rfl rfl (fun _ => rfl) ?_
    repeat' walk_at "go"
    refine ⟨_, _, _, _, _, _, Is _, X, Src.list hA'.handled (stays_list X.keep hRl), by omega, cells0 X rfl (am2 rfl rfl) (by simp only [List.map_cons, List.map_nil]; decide), rfl, ?_, ?_⟩
    · intro C' j v' s9 m' cm' led'' E'' hC' hj hPj hJ' X9
      subst hJ'
      obtain ⟨n', hn', hN'⟩ := Paired.item hrs j v' hPj
      have hns' := hsm n' (List.mem_of_getElem? hn')
      obtain ⟨l', kk', t1', u1', rfl, h2'⟩ := id hN'
      refine a_two X9 hA'.handled (stays_list X9.keep (stays_list X.keep (lst_is (hget _ _ h2')))) ?_
      clear X
      intro s10 X
      repeat' walk_at "go"
      refine t_one ?_
      repeat' walk_at "go"
      rename_i X
      refine i_mulL X (by omega) ?_
      intro tA sA X
      repeat' walk_at "go"
      refine i_mulL X (by omega) ?_
      intro tB sB X
      repeat' walk_at "go"
      refine ⟨fun hb => ?_, fun hb => ?_⟩
      · repeat' walk_at "go"
        rename_i X
        refine ⟨[], _, _, ⟨rfl, n', hN', ?_⟩, rfl, X⟩
        have := of_decide_eq_true hb
        unfold ltN
        rw [decide_eq_true_eq]
        exact_mod_cast this
      · refine ⟨⟨n', hN', ?_⟩, _, _, rfl, X⟩
        have := of_decide_eq_false hb
        unfold ltN
        rw [decide_eq_false_iff_not]
        exact_mod_cast this
    intro D' ws' ys' objs' k' s11 hwl' hPi' hout' X
    have e' := (src_eq hwl' hPi').symm
    subst e'
    obtain ⟨rfl, hcnt⟩ := outs_count hfn hout' hrs
    have hcl := List.countP_le_length (p := ltN n) (l := rs)
    have hrsl : rs.length = 4 := by rw [← hrsd, List.length_map, hdl]
    repeat' walk_at "go"
    refine b_len X (lst_is (X.get (.head _))) (by omega) ?_
    intro t12 s12 X
    refine ⟨[], _, _, ⟨n, hN, rfl, t12, by rw [hcnt]⟩, ?_, X.sub (.cons _ (List.Sublist.refl _))⟩
    exact hJ
  intro B ws3 bys bobjs bk s30 hwl3 hPi3 hout3 X1
  have e3 := (src_eq hwl3 hPi3).symm
  subst e3
  have ho3 := outs_noobj hout3
  subst ho3
  have hbs : IntsOf bys (rs.map fun n => rs.countP (ltN n)) := paired_ints (outs_map (RatioL.fn X) hout3 hrs)
  clear hout3 X
  have X := X1
  clear X1
  have hDm : (D, lst ys k) ∈ (B, lst bys bk) :: led2 := .tail _ hDm
  have hRm : (R, lst rys rk) ∈ (B, lst bys bk) :: led2 := .tail _ hRm
  have hBm : (B, lst bys bk) ∈ (B, lst bys bk) :: led2 := .head _
  have hds : Paired (DrawnL ((B, lst bys bk) :: led2)) ys ds := Paired.imp (fun a b => DrawnL.mono fun p hp => .tail _ hp) hds
  have hrs : Paired (RatioL ((B, lst bys bk) :: led2)) rys rs := Paired.imp (fun a b => RatioL.mono fun p hp => .tail _ hp) hrs
  have X : Act _ _ _ _ ((B, lst bys bk) :: led2) _ := X
  generalize (B, lst bys bk) :: led2 = led3 at X hDm hRm hBm hds hrs
  repeat' walk_at "go"
  rename_i s6 X
  refine lc (s₀ := s) (fun v y o => ∃ n, RatioL led3 v n ∧ (o = [] ∧ ∃ t, y = .int ((rs.countP (leN n) : Nat) : Int) t)) (fun _ => False) rfl rfl rfl (fun _ => rfl) ?_
  repeat' walk_at "go"
  refine ⟨_, _, _, _, _, _, (fun cm => cm (Str.ofString "ratios") = some (.ref R)), X, Src.list hA'.handled (lst_is (X.get hRm)), by omega, cells2 (x1 := Str.ofString "r") (x2 := Str.ofString "s") X (fun _ => rfl) (fun _ => rfl) (am1 rfl) (by simp only [List.map_cons, List.map_nil]; decide), rfl, ?_, ?_⟩
  · intro C i v s7 m cm led' E' hC hi hPi hJ X7
    have G1 := X.gl G
    obtain ⟨n, hn, hN⟩ := Paired.item hrs i v hPi
    have hns := hsm n (List.mem_of_getElem? hn)
    obtain ⟨l, kk, t1, u1, rfl, h2⟩ := id hN
    have hl1 := lst_is (X.get h2)
    have hRl := lst_is (X.get hRm)
    have hget : ∀ a o, (a, o) ∈ led3 → s6.heap.get? a = some o := fun a o hp => X.get hp
    have hfn := RatioL.fn X
    clear X
    refine a_two X7 hA'.handled (stays_list X7.keep hl1) ?_
    intro s8 X
    have hC1 : s6.heap.objs.size ≤ C + 1 := Nat.le_succ_of_le hC
    have hC2 : s6.heap.objs.size ≤ C + 1 + 1 := Nat.le_succ_of_le hC1
    repeat' walk_at "go"
    rename_i X
    refine lc (s₀ := s6) (fun v y o => o = [] ∧ ∃ n', RatioL led3 v n' ∧ leN n n' = true) (fun v => ∃ n', RatioL led3 v n' ∧ leN n n' = false) rfl rfl rfl (fun _ => rfl) ?_
    repeat' walk_at "go"
    refine ⟨_, _, _, _, _, _, Is _, X, Src.list hA'.handled (stays_list X.keep hRl), by omega, cells0 X rfl (am2 rfl rfl) (by simp only [List.map_cons, List.map_nil]; decide), rfl, ?_, ?_⟩
    · intro C' j v' s9 m' cm' led'' E'' hC' hj hPj hJ' X9
      subst hJ'
      obtain ⟨n', hn', hN'⟩ := Paired.item hrs j v' hPj
      have hns' := hsm n' (List.mem_of_getElem? hn')
      obtain ⟨l', kk', t1', u1', rfl, h2'⟩ := id hN'
      refine a_two X9 hA'.handled (stays_list X9.keep (stays_list X.keep (lst_is (hget _ _ h2')))) ?_
      clear X
      intro s10 X
      repeat' walk_at "go"
      refine t_one ?_
      repeat' walk_at "go"
      rename_i X
      refine i_mulL X (by omega) ?_
      intro tA sA X
      repeat' walk_at "go"
      refine i_mulL X (by omega) ?_
      intro tB sB X
      repeat' walk_at "go"
      refine ⟨fun hb => ?_, fun hb => ?_⟩
      · repeat' walk_at "go"
        rename_i X
        refine ⟨[], _, _, ⟨rfl, n', hN', ?_⟩, rfl, X⟩
        have := of_decide_eq_true hb
        unfold leN
        rw [decide_eq_true_eq]
        exact_mod_cast this
      · refine ⟨⟨n', hN', ?_⟩, _, _, rfl, X⟩
        have := of_decide_eq_false hb
        unfold leN
        rw [decide_eq_false_iff_not]
        exact_mod_cast this
    intro D' ws' ys' objs' k' s11 hwl' hPi' hout' X
    have e' := (src_eq hwl' hPi').symm
    subst e'
    obtain ⟨rfl, hcnt⟩ := outs_count hfn hout' hrs
    have hcl := List.countP_le_length (p := leN n) (l := rs)
    have hrsl : rs.length = 4 := by rw [← hrsd, List.length_map, hdl]
    repeat' walk_at "go"
    refine b_len X (lst_is (X.get (.head _))) (by omega) ?_
    intro t12 s12 X
    refine ⟨[], _, _, ⟨n, hN, rfl, t12, by rw [hcnt]⟩, ?_, X.sub (.cons _ (List.Sublist.refl _))⟩
    exact hJ
  intro U ws4 uys bobjs uk s40 hwl4 hPi4 hout4 X1
  have e4 := (src_eq hwl4 hPi4).symm
  subst e4
  have ho4 := outs_noobj hout4
  subst ho4
  have hus : IntsOf uys (rs.map fun n => rs.countP (leN n)) := paired_ints (outs_map (RatioL.fn X) hout4 hrs)
  clear hout4 X
  have X := X1
  clear X1
  have hDm : (D, lst ys k) ∈ (U, lst uys uk) :: led3 := .tail _ hDm
  have hBm : (B, lst bys bk) ∈ (U, lst uys uk) :: led3 := .tail _ hBm
  have hUm : (U, lst uys uk) ∈ (U, lst uys uk) :: led3 := .head _
  have hds : Paired (DrawnL ((U, lst uys uk) :: led3)) ys ds := Paired.imp (fun a b => DrawnL.mono fun p hp => .tail _ hp) hds
  have X : Act _ _ _ _ ((U, lst uys uk) :: led3) _ := X
  clear hRm hrs
  generalize (U, lst uys uk) :: led3 = led4 at X hDm hBm hUm hds
  have hrsl : rs.length = 4 := by rw [← hrsd, List.length_map, hdl]
  have hval : ∀ d ∈ ds, Val d.1 ∧ d.1 ≠ [] := by
    intro d hd
    obtain ⟨i, hi, rfl⟩ := List.getElem_of_mem hd
    obtain ⟨b, hb, hD⟩ := Paired.item hds i (ys[i]'(by omega)) (List.getElem?_eq_getElem _)
    rw [List.getElem?_eq_getElem hi] at hb
    cases hb
    obtain ⟨_, _, _, _, _, _, _, _, _, hp, _⟩ := hD
    exact hp.val
  repeat' walk_at "go"
  refine lc (s₀ := s) (fun v y o => o = [] ∧ ∃ (i : Nat) (t : Tok), v = .int (i : Int) t ∧ y = .int (i : Int) t ∧ goodN rs 1 i = true) (fun v => ∃ (i : Nat) (t : Tok), v = .int (i : Int) t ∧ goodN rs 1 i = false) rfl rfl rfl (fun _ => rfl) ?_
  repeat' walk_at "go"
  rename_i X
  refine b_range1 (n := ((4 : Nat) : Int)) X ?_
  intro r5 s51 u51 v51 X
  refine ⟨_, _, _, 4, _, _, Is _, X, Src.range1 hA'.handled (X.get (.head _)) (by omega), by omega, cells0 X rfl (am2 rfl rfl) (by simp only [List.map_cons, List.map_nil]; decide), rfl, ?_, ?_⟩
  · intro C i v s7 m cm led' E' hC hi hPi hJ X7
    obtain ⟨tz, rfl⟩ := hPi
    subst hJ
    have hlB := lst_is (X.get (.tail _ hBm))
    have hlU := lst_is (X.get (.tail _ hUm))
    clear X
    obtain ⟨t1, h1⟩ := ints_at hbs i (by rw [List.length_map, hrsl]; exact hi)
    obtain ⟨t2, h2⟩ := ints_at hus i (by rw [List.length_map, hrsl]; exact hi)
    repeat' walk_at "go"
    refine t_one ?_
    repeat' walk_at "go"
    rename_i X
    refine sub_list (stays_list X.keep hlB) (by omega) (by omega) (by rw [show ((i : Int)).toNat = i by omega]; exact h1) ?_
    repeat' walk_at "go"
    rename_i X
    refine ⟨fun hb => ?_, fun hb => ?_⟩
    · refine ⟨fun h => absurd h (by decide), fun _ => ⟨⟨i, tz, rfl, ?_⟩, _, _, rfl, X⟩⟩
      have := of_decide_eq_false hb
      unfold goodN
      rw [Bool.and_eq_false_iff, decide_eq_false_iff_not]
      left; omega
    repeat' walk_at "go"
    refine sub_list (stays_list X.keep hlU) (by omega) (by omega) (by rw [show ((i : Int)).toNat = i by omega]; exact h2) ?_
    repeat' walk_at "go"
    rename_i X
    have hb := of_decide_eq_true hb
    refine ⟨fun hb2 => ?_, fun hb2 => ?_⟩
    · have hb2 := of_decide_eq_true hb2
      repeat' walk_at "go"
      refine ⟨[], _, _, ⟨rfl, i, tz, rfl, rfl, ?_⟩, rfl, X⟩
      unfold goodN
      rw [Bool.and_eq_true, decide_eq_true_eq, decide_eq_true_eq]
      omega
    · have hb2 := of_decide_eq_false hb2
      refine ⟨⟨i, tz, rfl, ?_⟩, _, _, rfl, X⟩
      unfold goodN
      rw [Bool.and_eq_false_iff, decide_eq_false_iff_not, decide_eq_false_iff_not]
      right; omega
  intro K5 ws5 kys5 kobjs5 kk5 s52 hwl5 hPi5 hout5 X
  obtain ⟨rfl, hk1, hk2⟩ := outs_pick hout5 hPi5
  rw [hwl5] at hk1 hk2
  obtain ⟨one, tone, hzone, hltone, hgone⟩ : ∃ (i : Nat) (t : Tok), kys5[0]? = some (.int (i : Int) t) ∧ i < 4 ∧ goodN rs 1 i = true := by
    cases hk : kys5 with
    | nil =>
      obtain ⟨i, hi, hg⟩ := good_ex (ds := ds) hval (j := 1) (by omega)
      rw [hrsd, hk2 hk i (by omega)] at hg
      cases hg
    | cons y r =>
      obtain ⟨i, t, rfl, hi, hg⟩ := hk1 y (by rw [hk]; exact .head _)
      exact ⟨i, t, rfl, hi, hg⟩
  repeat' walk_at "go"
  rename_i X
  refine sub_list (lst_is (X.get (.head _))) (by decide) (by decide) hzone ?_
  repeat' walk_at "go"
  rename_i X
  have X := X.sub (news' := led4) (.cons _ (.cons _ (List.Sublist.refl _)))
  refine lc (s₀ := s) (fun v y o => o = [] ∧ ∃ (i : Nat) (t : Tok), v = .int (i : Int) t ∧ y = .int (i : Int) t ∧ goodN rs 2 i = true) (fun v => ∃ (i : Nat) (t : Tok), v = .int (i : Int) t ∧ goodN rs 2 i = false) rfl rfl rfl (fun _ => rfl) ?_
  repeat' walk_at "go"
  rename_i X
  refine b_range1 (n := ((4 : Nat) : Int)) X ?_
  intro r6 s61 u61 v61 X
  refine ⟨_, _, _, 4, _, _, Is _, X, Src.range1 hA'.handled (X.get (.head _)) (by omega), by omega, cells0 X rfl (am2 rfl rfl) (by simp only [List.map_cons, List.map_nil]; decide), rfl, ?_, ?_⟩
  · intro C i v s7 m cm led' E' hC hi hPi hJ X7
    obtain ⟨tz, rfl⟩ := hPi
    subst hJ
    have hlB := lst_is (X.get (.tail _ hBm))
    have hlU := lst_is (X.get (.tail _ hUm))
    clear X
    obtain ⟨t1, h1⟩ := ints_at hbs i (by rw [List.length_map, hrsl]; exact hi)
    obtain ⟨t2, h2⟩ := ints_at hus i (by rw [List.length_map, hrsl]; exact hi)
    repeat' walk_at "go"
    refine t_one ?_
    repeat' walk_at "go"
    rename_i X
    refine sub_list (stays_list X.keep hlB) (by omega) (by omega) (by rw [show ((i : Int)).toNat = i by omega]; exact h1) ?_
    repeat' walk_at "go"
    rename_i X
    refine ⟨fun hb => ?_, fun hb => ?_⟩
    · refine ⟨fun h => absurd h (by decide), fun _ => ⟨⟨i, tz, rfl, ?_⟩, _, _, rfl, X⟩⟩
      have := of_decide_eq_false hb
      unfold goodN
      rw [Bool.and_eq_false_iff, decide_eq_false_iff_not]
      left; omega
    repeat' walk_at "go"
    refine sub_list (stays_list X.keep hlU) (by omega) (by omega) (by rw [show ((i : Int)).toNat = i by omega]; exact h2) ?_
    repeat' walk_at "go"
    rename_i X
    have hb := of_decide_eq_true hb
    refine ⟨fun hb2 => ?_, fun hb2 => ?_⟩
    · have hb2 := of_decide_eq_true hb2
      repeat' walk_at "go"
      refine ⟨[], _, _, ⟨rfl, i, tz, rfl, rfl, ?_⟩, rfl, X⟩
      unfold goodN
      rw [Bool.and_eq_true, decide_eq_true_eq, decide_eq_true_eq]
      omega
    · have hb2 := of_decide_eq_false hb2
      refine ⟨⟨i, tz, rfl, ?_⟩, _, _, rfl, X⟩
      unfold goodN
      rw [Bool.and_eq_false_iff, decide_eq_false_iff_not, decide_eq_false_iff_not]
      right; omega
  intro K6 ws6 kys6 kobjs6 kk6 s62 hwl6 hPi6 hout6 X
  obtain ⟨rfl, hk1, hk2⟩ := outs_pick hout6 hPi6
  rw [hwl6] at hk1 hk2
  obtain ⟨other, tother, hzother, hltother, hgother⟩ : ∃ (i : Nat) (t : Tok), kys6[0]? = some (.int (i : Int) t) ∧ i < 4 ∧ goodN rs 2 i = true := by
    cases hk : kys6 with
    | nil =>
      obtain ⟨i, hi, hg⟩ := good_ex (ds := ds) hval (j := 2) (by omega)
      rw [hrsd, hk2 hk i (by omega)] at hg
      cases hg
    | cons y r =>
      obtain ⟨i, t, rfl, hi, hg⟩ := hk1 y (by rw [hk]; exact .head _)
      exact ⟨i, t, rfl, hi, hg⟩
  repeat' walk_at "go"
  rename_i X
  refine sub_list (lst_is (X.get (.head _))) (by decide) (by decide) hzother ?_
  walk_at "go"
  rename_i X
  have X := X.sub (news' := led4) (.cons _ (.cons _ (List.Sublist.refl _)))
  clear hus hbs hBm hUm hk1 hk2 hout5 hout6
  subst hrsd
  exact law_loops hO rfl G hA' X hDm hds hdl rfl rfl rfl rfl hc1 hc2 hltone hltother hgone hgother
end

section
open PySem PySem.W PySem.Calls PyProof.Rows
set_option maxRecDepth 100000
set_option maxHeartbeats 8000000
theorem okA0 {env : Env} : OkA (callerA.deeper env) 4 := ⟨rfl, by show 1 + claimMargin + 1 + 4 < recursionLimit; decide +kernel, by show 4 + 3 + 6 * 4 < cLine; decide +kernel⟩
theorem act0 {h₁ : Heap} {s₁ : Shared} {tk : Nat} {name : Str} {scope : Scope} {fa : Addr} {cdv : Value} {m cm : Str → Option Value} {cells : Led}
    (F : Fr s₁.heap s₁.heap.objs.size h₁ m) (N : News s₁.heap s₁.heap.objs.size h₁ cells) (XC : CellsAre cm (cellsFrom (s₁.heap.objs.size + 1) scope.names []) cells)
    (hap : (cellsFrom (s₁.heap.objs.size + 1) scope.names []).Pairwise fun x y => x.2 ≠ y.2) (hab : ∀ n c, (n, c) ∈ cellsFrom (s₁.heap.objs.size + 1) scope.names [] → s₁.heap.objs.size < c) :
    Act s₁ (envX name scope s₁.heap.objs.size fa cdv (cellsFrom (s₁.heap.objs.size + 1) scope.names [])) m cm [] { s₁ with heap := h₁, toks := tk } := by
  have C := Cl.of_news (own := []) N XC hap hab
  exact ⟨⟨h₁, tk, rfl⟩, F.ns, F.keep, F.above, C.cell, C.apart, fun n c hc => Nat.ne_of_gt (C.above n c (mem_of_lookup hc)), (fun _ h => nomatch h), List.nodup_nil⟩
theorem cf_above {lo : Nat} : ∀ (names : List (Str × NameKind)) (n : Nat) (acc : List (Str × Addr)), lo < n → (∀ p ∈ acc, lo < p.2) → ∀ p ∈ cellsFrom n names acc, lo < p.2
  | [], n, acc, _, h => by simpa [cellsFrom] using h
  | (x, k) :: r, n, acc, hn, h => by
    unfold cellsFrom
    split
    · refine cf_above r (n + 1) _ (by omega) fun p hp => ?_
      rcases List.mem_cons.mp hp with rfl | hp
      · exact hn
      · exact h p hp
    · exact cf_above r n acc hn h
theorem cf_apart : ∀ (names : List (Str × NameKind)) (n : Nat) (acc : List (Str × Addr)), (∀ p ∈ acc, p.2 < n) → acc.Pairwise (fun x y => x.2 ≠ y.2) → (cellsFrom n names acc).Pairwise fun x y => x.2 ≠ y.2
  | [], n, acc, _, h => by simpa [cellsFrom] using h
  | (x, k) :: r, n, acc, hn, h => by
    unfold cellsFrom
    split
    · refine cf_apart r (n + 1) _ (fun p hp => ?_) (List.pairwise_cons.mpr ⟨fun p hp => Nat.ne_of_gt (hn p hp), h⟩)
      rcases List.mem_cons.mp hp with rfl | hp
      · exact Nat.lt_succ_self _
      · exact Nat.lt_succ_of_lt (hn p hp)
    · exact cf_apart r n acc hn h
theorem fin : PySem.Challenge.rw_rs0034_01.Holds := hd (by
  k_go0
  have F := ‹Fr _ _ _ _›
  have N := ‹News _ _ _ _›
  have XC := ‹CellsAre _ _ _›
  have K := ‹(hd.heap_39 _).In _›
  have T := ‹Top _ _ _ _ _ _›
  have hI := ‹IntsAre _ _›
  have hL := ‹Heap.IsList _ _ _›
  refine wpAny_mono (law_body rfl ⟨K, _, _, _, _, topRead_of T⟩ okA0 hL hI ?_ (act0 F N XC ?_ ?_)) (fun fl s' h => ?_) (fun _ _ h => h.elim)
  · rw [IntsAre.length hI]; omega
  · exact cf_apart _ _ _ (fun _ h => nomatch h) List.Pairwise.nil
  · exact fun n c h => cf_above _ _ _ (Nat.lt_succ_self _) am0 (n, c) h
  · obtain ⟨h1, h', tk', rfl, hk⟩ := h
    cases fl with
    | ret v =>
      have h1 : v = .bool true := h1
      subst h1
      refine ⟨.inl ⟨.bool true, .bool true, [], rfl, raisesW_false ?_, ReadsW.bool _, ?_, fun h => ⟨List.nodup_nil, fun _ h => nomatch h⟩⟩, hk, rfl, by assumption⟩
      · wrow_none_raised
      · wrow_post
    | next => cases h1
    | brk => cases h1
    | cont => cases h1)
end

end Mine

theorem PySem.Challenge.cw_rs0034_01_holds : PySem.Challenge.rw_rs0034_01.Holds :=
  Mine.fin
