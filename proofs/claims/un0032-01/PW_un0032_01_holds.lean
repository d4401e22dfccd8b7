import PyProof.Rows.All
import Wide.All
import Open.Line
import KE.KUnpack
import KE.KDictOf
import OpenK.KWalk
import OpenK.KCls
import OpenK.KMore
import Wide.FinOn
import PyProof.RulesTry
import PySem.Challenge.RW_un0032_01
set_option autoImplicit false
set_option Elab.async false
set_option maxRecDepth 100000
set_option maxHeartbeats 8000000
open PySem PySem.Calls PyProof.Rows PySem.W


namespace Mine
/-! the two ways of a test whose outcome is known -/
theorem else_way {α : Type} {M : Model} {A : Around} {E : Value → Shared → Prop} {s : Shared} {c : Bool} {t u : Sem α} {Q : α → Shared → Prop} (hc : c = false) (h : wpAny M A u Q E s) : wpAny M A (if c = true then t else u) Q E s := by
  subst hc; exact h
theorem then_way {α : Type} {M : Model} {A : Around} {E : Value → Shared → Prop} {s : Shared} {c : Bool} {t u : Sem α} {Q : α → Shared → Prop} (hc : c = true) (h : wpAny M A t Q E s) : wpAny M A (if c = true then t else u) Q E s := by
  subst hc; exact h

/-- an object that is a plain list or tuple -/
noncomputable def PlainO (T : String) (o : Obj) (vs : Array Value) (n : Nat) : Prop := o = { cls := .type T, data := .seq vs n }
theorem PlainO.cls {T : String} {o : Obj} {vs : Array Value} {n : Nat} (h : PlainO T o vs n) : o.cls = .type T := by rw [h]
theorem PlainO.dict {T : String} {o : Obj} {vs : Array Value} {n : Nat} (h : PlainO T o vs n) : o.dict = none := by rw [h]
theorem PlainO.new (T : String) (vs : Array Value) : PlainO T { cls := .type T, data := .seq vs } vs 0 := rfl

mutual
/-- value `v` bears the datum `d` in heap `h`, through no address of `X` -/
inductive Rv (X : Addr → Prop) (h : Heap) : Value → PyData → Prop
  | none : Rv X h .none .none
  | bool (b : Bool) : Rv X h (.bool b) (.bool b)
  | int (i : Int) (t : Tok) : Rv X h (.int i t) (.int i)
  | str (x : Str) (t : Tok) : Rv X h (.str x t) (.str x)
  | list {a : Addr} {o : Obj} {vs : Array Value} {n : Nat} {ds : List PyData} : ¬ X a → h.get? a = some o → PlainO "list" o vs n → o.data = .seq vs n → Rvs X h vs.toList ds → Rv X h (.ref a) (.list ds)
  | tuple {a : Addr} {o : Obj} {vs : Array Value} {n : Nat} {ds : List PyData} : ¬ X a → h.get? a = some o → PlainO "tuple" o vs n → o.data = .seq vs n → Rvs X h vs.toList ds → Rv X h (.ref a) (.tuple ds)
  | dict {a : Addr} {o : Obj} {es : Array DictEntry} {n : Nat} {ks : List PyData} : ¬ X a → h.get? a = some o → o.cls = .type "dict" → o.data = .dict es n → (∀ e ∈ es.toList, e.val = .none) →
      Rvs X h (es.toList.map (·.key)) ks → Rv X h (.ref a) (.dict (ks.map fun k => (k, .none)))
inductive Rvs (X : Addr → Prop) (h : Heap) : List Value → List PyData → Prop
  | nil : Rvs X h [] []
  | cons {v : Value} {vs : List Value} {d : PyData} {ds : List PyData} : Rv X h v d → Rvs X h vs ds → Rvs X h (v :: vs) (d :: ds)
end

noncomputable def IsData (o : Obj) : Prop := o.cls = .type "list" ∨ o.cls = .type "tuple" ∨ o.cls = .type "dict"

section
variable {X X' : Addr → Prop} {h h' : Heap}
mutual
theorem Rv.move (k : ∀ a o, ¬ X a → h.get? a = some o → IsData o → ¬ X' a ∧ h'.get? a = some o) : ∀ {v : Value} {d : PyData}, Rv X h v d → Rv X' h' v d
  | _, _, .none => .none
  | _, _, .bool b => .bool b
  | _, _, .int i t => .int i t
  | _, _, .str x t => .str x t
  | _, _, .list x e c d r => let q := k _ _ x e (.inl c.cls); .list q.1 q.2 c d (Rvs.move k r)
  | _, _, .tuple x e c d r => let q := k _ _ x e (.inr (.inl c.cls)); .tuple q.1 q.2 c d (Rvs.move k r)
  | _, _, .dict x e c d z r => let q := k _ _ x e (.inr (.inr c)); .dict q.1 q.2 c d z (Rvs.move k r)
theorem Rvs.move (k : ∀ a o, ¬ X a → h.get? a = some o → IsData o → ¬ X' a ∧ h'.get? a = some o) : ∀ {vs : List Value} {ds : List PyData}, Rvs X h vs ds → Rvs X' h' vs ds
  | _, _, .nil => .nil
  | _, _, .cons a b => .cons (Rv.move k a) (Rvs.move k b)
end
theorem Rv.keeps {v : Value} {d : PyData} (r : Rv X h v d) (k : ∀ a o, h.get? a = some o → h'.get? a = some o) : Rv X h' v d := r.move fun a o x e _ => ⟨x, k a o e⟩
theorem Rvs.keeps {v : List Value} {d : List PyData} (r : Rvs X h v d) (k : ∀ a o, h.get? a = some o → h'.get? a = some o) : Rvs X h' v d := r.move fun a o x e _ => ⟨x, k a o e⟩
theorem Rv.reX {v : Value} {d : PyData} (r : Rv X h v d) (k : ∀ a, X' a → X a ∨ h.get? a = Option.none) : Rv X' h v d :=
  r.move fun a _ x e _ => ⟨fun y => (k a y).elim x (fun z => by rw [z] at e; cases e), e⟩
theorem Rvs.reX {v : List Value} {d : List PyData} (r : Rvs X h v d) (k : ∀ a, X' a → X a ∨ h.get? a = Option.none) : Rvs X' h v d :=
  r.move fun a _ x e _ => ⟨fun y => (k a y).elim x (fun z => by rw [z] at e; cases e), e⟩
theorem Rvs.length : ∀ {vs : List Value} {ds : List PyData}, Rvs X h vs ds → vs.length = ds.length
  | _, _, .nil => rfl
  | _, _, .cons _ b => congrArg (· + 1) (Rvs.length b)
theorem noneVals (h : Heap) : ∀ (l : List DictEntry) (ks : List PyData), l.length = ks.length → (∀ e ∈ l, e.val = .none) → ReadsAll h (l.map (·.val)) ((ks.map fun k => (k, PyData.none)).map (·.2)) []
  | [], [], _, _ => .nil
  | x :: l, k :: ks, hl, z => by
    have h2 := noneVals h l ks (by simpa using hl) fun e he => z e (.tail _ he)
    show ReadsAll h (x.val :: l.map (·.val)) (PyData.none :: (ks.map fun k => (k, PyData.none)).map (·.2)) []
    rw [z x (.head _)]
    exact ReadsAll.cons (as := []) .none h2
  | [], _ :: _, hl, _ => by simp at hl
  | _ :: _, [], hl, _ => by simp at hl
mutual
theorem Rv.reads : ∀ {v : Value} {d : PyData}, Rv X h v d → ∃ as, Reads h v d as
  | _, _, .none => ⟨_, .none⟩
  | _, _, .bool b => ⟨_, .bool b⟩
  | _, _, .int i t => ⟨_, .int i t⟩
  | _, _, .str x t => ⟨_, .str x t⟩
  | _, _, .list _ e c d r => let ⟨_, q⟩ := Rvs.reads r; ⟨_, .list e c.cls d q⟩
  | _, _, .tuple _ e c d r => let ⟨_, q⟩ := Rvs.reads r; ⟨_, .tuple e c.cls d q⟩
  | _, _, .dict (ks := ks) _ e c d z r => by
    obtain ⟨as, q⟩ := Rvs.reads r
    have k1 : (ks.map fun k => (k, PyData.none)).map (·.1) = ks := by rw [List.map_map]; exact (List.map_congr_left fun _ _ => rfl).trans (List.map_id _)
    exact ⟨_, .dict e c d (by rw [k1]; exact q) (noneVals h _ ks (by simpa using r.length) z)⟩
theorem Rvs.reads : ∀ {vs : List Value} {ds : List PyData}, Rvs X h vs ds → ∃ as, ReadsAll h vs ds as
  | _, _, .nil => ⟨_, .nil⟩
  | _, _, .cons a b => let ⟨_, p⟩ := Rv.reads a; let ⟨_, q⟩ := Rvs.reads b; ⟨_, .cons p q⟩
end
theorem Rvs.append {vs ws : List Value} {ds es : List PyData} (r : Rvs X h vs ds) (q : Rvs X h ws es) : Rvs X h (vs ++ ws) (ds ++ es) := by
  induction vs generalizing ds with
  | nil => cases r; exact q
  | cons v vs ih => cases r with | cons a b => exact .cons a (ih b)
theorem Rvs.get {vs : List Value} {ds : List PyData} (r : Rvs X h vs ds) : ∀ {i : Nat} {d : PyData}, ds[i]? = some d → ∃ v, vs[i]? = some v ∧ Rv X h v d := by
  induction vs generalizing ds with
  | nil => cases r; intro i d e; simp at e
  | cons v vs ih =>
    cases r with
    | cons a b =>
      intro i d e
      cases i with
      | zero => simp at e; subst e; exact ⟨v, rfl, a⟩
      | succ i => simpa using ih b (by simpa using e)
theorem Rvs.snoc {vs : List Value} {ds : List PyData} {v : Value} {d : PyData} (r : Rvs X h vs ds) (q : Rv X h v d) : Rvs X h (vs ++ [v]) (ds ++ [d]) := r.append (.cons q .nil)
end

end Mine


namespace Mine

abbrev Rho := List (Option PyData)
/-- what a frame may do with a name: store and read; read; own a list that it changes -/
inductive Fl where
  | loc | ro | own
  deriving DecidableEq
abbrev Lay := List (Str × Fl)
noncomputable def Fl.plain : Fl → Bool
  | .loc | .ro => true
  | _ => false
noncomputable def Fl.writes : Fl → Bool
  | .loc | .own => true
  | _ => false
noncomputable def rget : Rho → Nat → Option PyData
  | [], _ => none
  | x :: _, 0 => x
  | _ :: r, n + 1 => rget r n
noncomputable def rset : Rho → Nat → PyData → Rho
  | [], _, _ => []
  | _ :: r, 0, d => some d :: r
  | x :: r, n + 1, d => x :: rset r n d
theorem rget_rset : ∀ (ρ : Rho) (i j : Nat) (d : PyData) {e : PyData}, rget (rset ρ i d) j = some e → (j = i ∧ e = d) ∨ (j ≠ i ∧ rget ρ j = some e)
  | [], _, j, _, _, h => by simp [rset, rget] at h
  | _ :: r, 0, 0, d, _, h => .inl ⟨rfl, by simpa [rset, rget] using h.symm⟩
  | _ :: r, 0, j + 1, d, _, h => .inr ⟨by simp, by simpa [rset, rget] using h⟩
  | x :: r, i + 1, 0, d, _, h => .inr ⟨by simp, by simpa [rset, rget] using h⟩
  | x :: r, i + 1, j + 1, d, e, h => by
    have := rget_rset r i j d (e := e) (by simpa [rset, rget] using h)
    rcases this with ⟨a, b⟩ | ⟨a, b⟩
    · exact .inl ⟨by omega, b⟩
    · exact .inr ⟨by omega, by simpa [rget] using b⟩

structure EnvOk (hb : Heap) (sc : Scope) (env : Env) : Prop where
  scope : env.scope = sc
  kind : sc.kind = .function
  globals : env.globals = mainGlobals
  builtins : env.builtins = builtinsNs
  apart : ∀ n n' c, env.cells.lookup n = some c → env.cells.lookup n' = some c → n = n'
  sepL : ∀ n c, env.cells.lookup n = some c → c ≠ env.locals
  cellK : ∀ n c, env.cells.lookup n = some c → sc.names.lookup n = some .cell ∨ sc.names.lookup n = some .free

structure Vars (env : Env) (h : Heap) (m : Str → Option Value) : Prop where
  ns : ∃ ml, h.Ns env.locals ml ∧ ∀ x, env.kindOf x = some .local → ml x = m x
  cell : ∀ x, (env.kindOf x = some .cell ∨ env.kindOf x = some .free) → ∃ c, env.cells.lookup x = some c ∧ h.IsCell c (m x)

noncomputable def Own (Y X : Addr → Prop) (h : Heap) (a : Addr) (d : PyData) : Prop :=
  ∃ o vs n ds, X a ∧ ¬ Y a ∧ h.get? a = some o ∧ PlainO "list" o vs n ∧ o.data = .seq vs n ∧ d = .list ds ∧ Rvs X h vs.toList ds

/-- a borrowed value: it may be a list that some frame still changes; its items are not -/
inductive Rb (X : Addr → Prop) (h : Heap) (v : Value) (d : PyData) : Prop
  | val : Rv X h v d → Rb X h v d
  | own {a : Addr} {o : Obj} {vs : Array Value} {n : Nat} {ds : List PyData} : v = .ref a → d = .list ds → h.get? a = some o → PlainO "list" o vs n → o.data = .seq vs n → Rvs X h vs.toList ds → Rb X h v d
theorem Rb.reads {X : Addr → Prop} {h : Heap} {v : Value} {d : PyData} (r : Rb X h v d) : ∃ as, Reads h v d as := by
  cases r with
  | val r => exact r.reads
  | own e1 e2 e3 e4 e5 r => subst e1 e2; obtain ⟨as, q⟩ := r.reads; exact ⟨_, .list e3 e4.cls e5 q⟩
theorem Rb.keeps {X : Addr → Prop} {h h' : Heap} {v : Value} {d : PyData} (r : Rb X h v d) (k : ∀ a o, h.get? a = some o → h'.get? a = some o) : Rb X h' v d := by
  cases r with
  | val r => exact .val (r.keeps k)
  | own e1 e2 e3 e4 e5 r => exact .own e1 e2 (k _ _ e3) e4 e5 (r.keeps k)

structure Binds (Γ : Lay) (Y X : Addr → Prop) (h : Heap) (m : Str → Option Value) (ρ : Rho) : Prop where
  val : ∀ (i : Nat) (x : Str) (fl : Fl) (d : PyData), Γ[i]? = some (x, fl) → fl.plain = true → rget ρ i = some d → ∃ v, m x = some v ∧ Rv X h v d
  own : ∀ i x d, Γ[i]? = some (x, .own) → rget ρ i = some d → ∃ a, m x = some (.ref a) ∧ Own Y X h a d
  sep : ∀ i j x y a d e, Γ[i]? = some (x, .own) → Γ[j]? = some (y, .own) → rget ρ i = some d → rget ρ j = some e → m x = some (.ref a) → m y = some (.ref a) → i = j

structure St (hb : Heap) (Γ : Lay) (env : Env) (Y X : Addr → Prop) (ρ : Rho) (s : Shared) : Prop where
  base : ∀ a o, hb.get? a = some o → s.heap.get? a = some o
  vars : ∃ m, Vars env s.heap m ∧ Binds Γ Y X s.heap m ρ
  dom : ∀ a, X a → ∃ o, s.heap.get? a = some o
  old : ∀ a, X a → hb.get? a = none
  sub : ∀ a, Y a → X a
  locX : X env.locals ∧ ¬ Y env.locals
  celX : ∀ n c, env.cells.lookup n = some c → X c
  celY : ∀ (i : Nat) (n : Str) (fl : Fl) (c : Addr), Γ[i]? = some (n, fl) → fl.writes = true → env.cells.lookup n = some c → ¬ Y c
  nd : (Γ.map (·.1)).Nodup

structure Kp (s s' : Shared) : Prop where
  eqs : ∃ h' tk, s' = { s with heap := h', toks := tk }
  get : ∀ b o, s.heap.get? b = some o → s'.heap.get? b = some o
theorem Kp.of {s s' : Shared} (k : Keeps s s') : Kp s s' := by
  obtain ⟨h, t, rfl, k⟩ := k
  exact ⟨⟨h, t, rfl⟩, k⟩
theorem Kp.to {s s' : Shared} (k : Kp s s') : Keeps s s' := by
  obtain ⟨⟨h, t, rfl⟩, k⟩ := k
  exact ⟨h, t, rfl, k⟩
theorem Kp.trans {s s' s'' : Shared} (a : Kp s s') (b : Kp s' s'') : Kp s s'' := by
  obtain ⟨⟨h, t, rfl⟩, k⟩ := a
  obtain ⟨⟨h', t', rfl⟩, k'⟩ := b
  exact ⟨⟨h', t', rfl⟩, fun b o e => k' b o (k b o e)⟩
theorem Kp.refl (s : Shared) : Kp s s := ⟨⟨s.heap, s.toks, rfl⟩, fun _ _ e => e⟩
theorem Kp.mk' {s : Shared} {h' : Heap} {tk : Nat} (k : ∀ b o, s.heap.get? b = some o → h'.get? b = some o) : Kp s { s with heap := h', toks := tk } := ⟨⟨h', tk, rfl⟩, k⟩
theorem Kp.tok (s : Shared) (t : Nat) : Kp s { s with toks := t } := ⟨⟨s.heap, t, rfl⟩, fun _ _ e => e⟩
theorem Kp.push (s : Shared) (o : Obj) : Kp s { s with heap := s.heap.push o } := ⟨⟨_, s.toks, rfl⟩, fun _ _ e => Heap.get?_push_of_some o e⟩

theorem Vars.keeps {env : Env} {h h' : Heap} {m : Str → Option Value} (V : Vars env h m) (k : ∀ a o, h.get? a = some o → h'.get? a = some o) : Vars env h' m :=
  ⟨let ⟨ml, a, b⟩ := V.ns; ⟨ml, a.keeps k, b⟩, fun x hx => let ⟨c, a, b⟩ := V.cell x hx; ⟨c, a, b.keeps k⟩⟩
theorem Own.keeps {Y X : Addr → Prop} {h h' : Heap} {a : Addr} {d : PyData} (r : Own Y X h a d) (k : ∀ a o, h.get? a = some o → h'.get? a = some o) : Own Y X h' a d := by
  obtain ⟨o, vs, n, ds, x, y, e, c, dt, q, z⟩ := r
  exact ⟨o, vs, n, ds, x, y, k _ _ e, c, dt, q, z.keeps k⟩
theorem Binds.keeps {Γ : Lay} {Y X : Addr → Prop} {h h' : Heap} {m : Str → Option Value} {ρ : Rho} (B : Binds Γ Y X h m ρ) (k : ∀ a o, h.get? a = some o → h'.get? a = some o) : Binds Γ Y X h' m ρ :=
  ⟨fun i x fl d a b c => let ⟨v, p, q⟩ := B.val i x fl d a b c; ⟨v, p, q.keeps k⟩, fun i x d a b => let ⟨v, p, q⟩ := B.own i x d a b; ⟨v, p, q.keeps k⟩, B.sep⟩
theorem St.keeps {hb : Heap} {Γ : Lay} {env : Env} {Y X : Addr → Prop} {ρ : Rho} {s s' : Shared} (S : St hb Γ env Y X ρ s) (K : Kp s s') : St hb Γ env Y X ρ s' :=
  ⟨fun a o e => K.get _ _ (S.base a o e), let ⟨m, a, b⟩ := S.vars; ⟨m, a.keeps K.get, b.keeps K.get⟩, fun a x => let ⟨o, e⟩ := S.dom a x; ⟨o, K.get _ _ e⟩, S.old, S.sub, S.locX, S.celX, S.celY, S.nd⟩

noncomputable def Room (k : Nat) (A : Around) : Prop := A.handled = none ∧ A.depth + k < recursionLimit ∧ A.units + 20 * k + 200 < cLine
theorem Room.le {k j : Nat} {A : Around} (R : Room k A) (h : j ≤ k) : Room j A := ⟨R.1, by have := R.2.1; omega, by have := R.2.2; omega⟩

section
variable (prog : Program) (w : World) (hb : Heap)

noncomputable def SimE (k : Nat) (Γ : Lay) (sc : Scope) (f : Rho → Option PyData) (e : Expr) : Prop :=
  ∀ env, EnvOk hb sc env → ∀ (A : Around) (Y X : Addr → Prop) (ρ : Rho) (s : Shared) (d : PyData) (Q : Value → Shared → Prop) (E : Value → Shared → Prop), Room k A → St hb Γ env Y X ρ s → f ρ = some d →
    (∀ v s', Kp s s' → Rv X s'.heap v d → Q v s') → wpAny (model prog w) A (eval e env) Q E s

noncomputable def SimB (k : Nat) (Γ : Lay) (sc : Scope) (f : Rho → Option PyData) (e : Expr) : Prop :=
  ∀ env, EnvOk hb sc env → ∀ (A : Around) (Y X : Addr → Prop) (ρ : Rho) (s : Shared) (d : PyData) (Q : Value → Shared → Prop) (E : Value → Shared → Prop), Room k A → St hb Γ env Y X ρ s → f ρ = some d →
    (∀ v s', Kp s s' → Rb X s'.heap v d → Q v s') → wpAny (model prog w) A (eval e env) Q E s

noncomputable def SimC (k : Nat) (Γ : Lay) (sc : Scope) (f : Rho → Option Bool) (e : Expr) : Prop :=
  ∀ env, EnvOk hb sc env → ∀ (A : Around) (Y X : Addr → Prop) (ρ : Rho) (s : Shared) (b : Bool) (Q : Bool → Shared → Prop) (E : Value → Shared → Prop), Room k A → St hb Γ env Y X ρ s → f ρ = some b →
    (∀ s', Kp s s' → Q b s') → wpAny (model prog w) A (isTrue e env (eval e env)) Q E s

inductive Out where
  | next (ρ : Rho)
  | brk (ρ : Rho)
  | cont (ρ : Rho)
  | ret (d : PyData)

structure Step (Y X X' : Addr → Prop) (s s' : Shared) : Prop where
  eqs : ∃ h' tk, s' = { s with heap := h', toks := tk }
  keep : ∀ a o, ¬ (X' a ∧ ¬ Y a) → s.heap.get? a = some o → s'.heap.get? a = some o
  grow : ∀ a, X a → X' a
  fresh : ∀ a, X' a → X a ∨ s.heap.get? a = none
  ex : ∀ a o, s.heap.get? a = some o → ∃ o', s'.heap.get? a = some o'

noncomputable def PostS (Γ : Lay) (env : Env) (Y X : Addr → Prop) (s : Shared) (o : Out) (fl : Flow) (s' : Shared) : Prop :=
  match o with
  | .next ρ' => fl = .next ∧ ∃ X', Step Y X X' s s' ∧ St hb Γ env Y X' ρ' s'
  | .brk ρ' => fl = .brk ∧ ∃ X', Step Y X X' s s' ∧ St hb Γ env Y X' ρ' s'
  | .cont ρ' => fl = .cont ∧ ∃ X', Step Y X X' s s' ∧ St hb Γ env Y X' ρ' s'
  | .ret d => ∃ v X', fl = .ret v ∧ Step Y X X' s s' ∧ Rv Y s'.heap v d

noncomputable def SimT (k : Nat) (Γ : Lay) (sc : Scope) (f : Rho → Option Out) (t : Env → Sem Flow) : Prop :=
  ∀ env, EnvOk hb sc env → ∀ (A : Around) (Y X : Addr → Prop) (ρ : Rho) (s : Shared) (o : Out) (Q : Flow → Shared → Prop) (E : Value → Shared → Prop), Room k A → St hb Γ env Y X ρ s → f ρ = some o →
    (∀ fl s', PostS hb Γ env Y X s o fl s' → Q fl s') → wpAny (model prog w) A (t env) Q E s
abbrev SimS (k : Nat) (Γ : Lay) (sc : Scope) (f : Rho → Option Out) (b : List Stmt) : Prop := SimT prog w hb k Γ sc f (execs b)
abbrev Sim1 (k : Nat) (Γ : Lay) (sc : Scope) (f : Rho → Option Out) (b : Stmt) : Prop := SimT prog w hb k Γ sc f (exec b)

noncomputable def CallOk (k : Nat) (fv : Value) (g : List PyData → Option PyData) : Prop :=
  ∀ (A : Around) (Y : Addr → Prop) (s : Shared) (vs : List Value) (ds : List PyData) (d : PyData) (Q : Value → Shared → Prop) (E : Value → Shared → Prop), Room k A → (∀ a o, hb.get? a = some o → s.heap.get? a = some o) →
    (∀ a, Y a → ∃ o, s.heap.get? a = some o) → (∀ a, Y a → hb.get? a = none) → Rvs Y s.heap vs ds → g ds = some d → (∀ v s', Kp s s' → Rv Y s'.heap v d → Q v s') → wpAny (model prog w) A (call fv vs) Q E s
end

section
variable {prog : Program} {w : World} {hb : Heap} {k : Nat} {Γ : Lay} {sc : Scope}

theorem SimE.toB {f : Rho → Option PyData} {e : Expr} (h : SimE prog w hb k Γ sc f e) : SimB prog w hb k Γ sc f e :=
  fun env O A Y X ρ s d Q E R S hf q => h env O A Y X ρ s d Q E R S hf fun v s' K r => q v s' K (.val r)

/-! names -/
noncomputable def isVar (sc : Scope) (x : Str) : Bool := match sc.names.lookup x with
  | some .local => true
  | some .cell => true
  | some .free => true
  | _ => false
theorem isVar_cases {x : Str} (h : isVar sc x = true) : sc.names.lookup x = some .local ∨ sc.names.lookup x = some .cell ∨ sc.names.lookup x = some .free := by
  unfold isVar at h; split at h <;> simp_all

theorem load_var {env : Env} {A : Around} {s : Shared} {m : Str → Option Value} {x : Str} {pos : Pos} {v : Value} {Q E : Value → Shared → Prop} (O : EnvOk hb sc env) (V : Vars env s.heap m) (hk : isVar sc x = true) (hm : m x = some v) (h : Q v s)
    (hd : (x == ("__debug__" : Str)) = false) (hc : (x == ("__classdict__" : Str)) = false) : wpAny (model prog w) A (eval (.Name x pos) env) Q E s := by
  refine wpAny_Name ?_ hd
  have hkf : env.scope.kind = .function := by rw [O.scope]; exact O.kind
  rcases isVar_cases hk with e | e | e
  · obtain ⟨ml, hn, hl⟩ := V.ns
    have q : env.kindOf x = some .local := by unfold Env.kindOf; rw [O.scope]; exact e
    exact wpAny_loadName_local hkf q hn ((hl x q).trans hm) h
  · have q : env.kindOf x = some .cell := by unfold Env.kindOf; rw [O.scope]; exact e
    obtain ⟨c, h1, h2⟩ := V.cell x (.inl q)
    exact wpAny_loadName_cell hkf q h1 (hm ▸ h2) h
  · have q : env.kindOf x = some .free := by unfold Env.kindOf; rw [O.scope]; exact e
    obtain ⟨c, h1, h2⟩ := V.cell x (.inr q)
    exact wpAny_loadName_free hkf q h1 (hm ▸ h2) h hc

theorem R_name {i : Nat} {x : Str} {fl : Fl} {pos : Pos} (hi : Γ[i]? = some (x, fl)) (hp : fl.plain = true) (hk : isVar sc x = true) (hd : (x == ("__debug__" : Str)) = false) (hc : (x == ("__classdict__" : Str)) = false) :
    SimE prog w hb k Γ sc (fun ρ => rget ρ i) (.Name x pos) := by
  intro env O A Y X ρ s d Q E R S hf q
  obtain ⟨m, V, B⟩ := S.vars
  obtain ⟨v, hm, hr⟩ := B.val i x fl d hi hp hf
  exact load_var O V hk hm (q v s (Kp.refl s) hr) hd hc
theorem R_nameB {i : Nat} {x : Str} {fl : Fl} {pos : Pos} (hi : Γ[i]? = some (x, fl)) (hp : fl.plain = false) (hk : isVar sc x = true) (hd : (x == ("__debug__" : Str)) = false) (hc : (x == ("__classdict__" : Str)) = false) :
    SimB prog w hb k Γ sc (fun ρ => rget ρ i) (.Name x pos) := by
  intro env O A Y X ρ s d Q E R S hf q
  obtain ⟨m, V, B⟩ := S.vars
  cases fl with
  | loc => cases hp
  | ro => cases hp
  | own =>
    obtain ⟨a, hm, o, vs, n, ds, xa, ya, e, c, dt, ed, r⟩ := B.own i x d hi hf
    exact load_var O V hk hm (q _ s (Kp.refl s) (.own rfl ed e c dt r)) hd hc

theorem R_int {i : Int} {pos : Pos} {n : Nat} : SimE prog w hb k Γ sc (fun _ => some (.int i)) (.Constant (.int i) n pos) :=
  fun env O A Y X ρ s d Q E R S hf q => by
    cases hf
    exact wpAny_Constant_int (q _ _ (Kp.tok s _) (.int _ _))
theorem R_str {x : Str} {pos : Pos} {n : Nat} : SimE prog w hb k Γ sc (fun _ => some (.str x)) (.Constant (.str x) n pos) :=
  fun env O A Y X ρ s d Q E R S hf q => by
    cases hf
    exact wpAny_Constant_str (q _ _ (Kp.tok s _) (.str _ _))
theorem R_bool {b : Bool} {pos : Pos} {n : Nat} : SimE prog w hb k Γ sc (fun _ => some (.bool b)) (.Constant (.bool b) n pos) :=
  fun env O A Y X ρ s d Q E R S hf q => by
    cases hf
    exact wpAny_Constant_bool (q _ _ (Kp.refl s) (.bool _))

/-! operators -/
noncomputable def OpOk (prog : Program) (w : World) (op : Operator) (F : PyData → PyData → Option PyData) : Prop :=
  ∀ (A : Around) (X : Addr → Prop) (s : Shared) (u v : Value) (a b d : PyData) (Q E : Value → Shared → Prop), A.units + 200 < cLine → (∀ a, X a → ∃ o, s.heap.get? a = some o) → Rb X s.heap u a → Rb X s.heap v b → F a b = some d →
    (∀ v s', Kp s s' → Rv X s'.heap v d → Q v s') → wpAny (model prog w) A (binaryOp op u v) Q E s
noncomputable def bin (F : PyData → PyData → Option PyData) (f g : Rho → Option PyData) (ρ : Rho) : Option PyData :=
  match f ρ, g ρ with
  | some a, some b => F a b
  | _, _ => none
theorem bin_some {F : PyData → PyData → Option PyData} {f g : Rho → Option PyData} {ρ : Rho} {d : PyData} (h : bin F f g ρ = some d) : ∃ a b, f ρ = some a ∧ g ρ = some b ∧ F a b = some d := by
  unfold bin at h; split at h
  · exact ⟨_, _, by assumption, by assumption, h⟩
  · cases h
theorem R_bin {op : Operator} {F : PyData → PyData → Option PyData} {f g : Rho → Option PyData} {l r : Expr} {pos : Pos} (o : OpOk prog w op F) (hl : SimB prog w hb k Γ sc f l) (hr : SimB prog w hb k Γ sc g r) :
    SimE prog w hb k Γ sc (bin F f g) (.BinOp l op r pos) := by
  intro env O A Y X ρ s d Q E R S hf q
  obtain ⟨a, b, ha, hb', hF⟩ := bin_some hf
  refine wpAny_BinOp (hl env O A Y X ρ s a _ E R S ha fun u s₁ K₁ r₁ => hr env O A Y X ρ s₁ b _ E R (S.keeps K₁) hb' fun v s₂ K₂ r₂ => ?_)
  have S₂ := (S.keeps K₁).keeps K₂
  exact o A X s₂ u v a b d Q E (by have := R.2.2; omega) S₂.dom (r₁.keeps K₂.get) r₂ hF fun v s' K' r' => q v s' ((K₁.trans K₂).trans K') r'

noncomputable def CmpOk (prog : Program) (w : World) (op : CmpOp) (F : PyData → PyData → Option Bool) : Prop :=
  ∀ (A : Around) (X : Addr → Prop) (s : Shared) (u v : Value) (a b : PyData) (d : Bool) (Q E : Value → Shared → Prop), A.units + 200 < cLine → Rb X s.heap u a → Rb X s.heap v b → F a b = some d →
    (∀ s', Kp s s' → Q (.bool d) s') → wpAny (model prog w) A (compareOp op u v) Q E s
noncomputable def cmp (F : PyData → PyData → Option Bool) (f g : Rho → Option PyData) (ρ : Rho) : Option Bool :=
  match f ρ, g ρ with
  | some a, some b => F a b
  | _, _ => none
theorem cmp_some {F : PyData → PyData → Option Bool} {f g : Rho → Option PyData} {ρ : Rho} {d : Bool} (h : cmp F f g ρ = some d) : ∃ a b, f ρ = some a ∧ g ρ = some b ∧ F a b = some d := by
  unfold cmp at h; split at h
  · exact ⟨_, _, by assumption, by assumption, h⟩
  · cases h
noncomputable def boolD (f : Rho → Option Bool) (ρ : Rho) : Option PyData := (f ρ).map .bool
theorem boolD_some {f : Rho → Option Bool} {ρ : Rho} {d : PyData} (h : boolD f ρ = some d) : ∃ b, f ρ = some b ∧ d = .bool b := by
  unfold boolD at h
  cases e : f ρ with
  | none => rw [e] at h; cases h
  | some b => rw [e] at h; cases h; exact ⟨b, rfl, rfl⟩
theorem R_cmp {op : CmpOp} {F : PyData → PyData → Option Bool} {f g : Rho → Option PyData} {l r : Expr} {pos : Pos} (o : CmpOk prog w op F) (hl : SimB prog w hb k Γ sc f l) (hr : SimB prog w hb k Γ sc g r)
    (hm : behindInMarks op r = false) : SimE prog w hb k Γ sc (boolD (cmp F f g)) (.Compare l [op] [r] pos) := by
  intro env O A Y X ρ s d Q E R S hf q
  obtain ⟨t, hf', rfl⟩ := boolD_some hf
  clear hf
  have hf := hf'
  obtain ⟨a, b, ha, hb', hF⟩ := cmp_some hf
  refine wpAny_Compare1 (hl env O A Y X ρ s a _ E R S ha fun u s₁ K₁ r₁ => hr env O A Y X ρ s₁ b _ E R (S.keeps K₁) hb' fun v s₂ K₂ r₂ => ?_) hm
  exact o A X s₂ u v a b t Q E (by have := R.2.2; omega) (r₁.keeps K₂.get) r₂ hF fun s' K' => q _ s' ((K₁.trans K₂).trans K') (.bool _)
theorem C_cmp {op : CmpOp} {F : PyData → PyData → Option Bool} {f g : Rho → Option PyData} {l r : Expr} {pos : Pos} (o : CmpOk prog w op F) (hl : SimB prog w hb k Γ sc f l) (hr : SimB prog w hb k Γ sc g r)
    (hm : behindInMarks op r = false) : SimC prog w hb k Γ sc (cmp F f g) (.Compare l [op] [r] pos) := by
  intro env O A Y X ρ s t Q E R S hf q
  obtain ⟨a, b, ha, hb', hF⟩ := cmp_some hf
  refine wpAny_isTrue_Compare1 (hl env O A Y X ρ s a _ E R S ha fun u s₁ K₁ r₁ => hr env O A Y X ρ s₁ b _ E R (S.keeps K₁) hb' fun v s₂ K₂ r₂ => ?_) hm
  exact o A X s₂ u v a b t _ E (by have := R.2.2; omega) (r₁.keeps K₂.get) r₂ hF fun s' K' => wpAny_truthy_bool (q s' ((K₁.trans K₂).trans K'))
theorem C_not {f : Rho → Option Bool} {x : Expr} {pos : Pos} (h : SimC prog w hb k Γ sc f x) : SimC prog w hb k Γ sc (fun ρ => (f ρ).map (!·)) (.UnaryOp .Not x pos) := by
  intro env O A Y X ρ s t Q E R S hf q
  dsimp only at hf
  cases e : f ρ with
  | none => rw [e] at hf; cases hf
  | some b => rw [e] at hf; cases hf; exact wpAny_isTrue_Not (h env O A Y X ρ s b _ E R S e fun s' K => q s' K)

noncomputable def andC (f g : Rho → Option Bool) (ρ : Rho) : Option Bool := match f ρ with
  | some true => g ρ
  | some false => some false
  | none => none
noncomputable def orC (f g : Rho → Option Bool) (ρ : Rho) : Option Bool := match f ρ with
  | some true => some true
  | some false => g ρ
  | none => none
noncomputable def SimAll (prog : Program) (w : World) (hb : Heap) (k : Nat) (Γ : Lay) (sc : Scope) (op : BoolOp) (f : Rho → Option Bool) (es : List Expr) : Prop :=
  ∀ env, EnvOk hb sc env → ∀ (A : Around) (Y X : Addr → Prop) (ρ : Rho) (s : Shared) (b : Bool) (Q : Bool → Shared → Prop) (E : Value → Shared → Prop), Room k A → St hb Γ env Y X ρ s → f ρ = some b →
    (∀ s', Kp s s' → Q b s') → wpAny (model prog w) A (allTrue op es env) Q E s
theorem All_and_nil : SimAll prog w hb k Γ sc .And (fun _ => some true) [] := fun env O A Y X ρ s b Q E R S hf q => by cases hf; exact wpAny_allTrue_And_nil (q s (Kp.refl s))
theorem All_or_nil : SimAll prog w hb k Γ sc .Or (fun _ => some false) [] := fun env O A Y X ρ s b Q E R S hf q => by cases hf; exact wpAny_allTrue_Or_nil (q s (Kp.refl s))
theorem All_and_cons {f g : Rho → Option Bool} {e : Expr} {es : List Expr} (h : SimC prog w hb k Γ sc f e) (h' : SimAll prog w hb k Γ sc .And g es) : SimAll prog w hb k Γ sc .And (andC f g) (e :: es) := by
  intro env O A Y X ρ s b Q E R S hf q
  unfold andC at hf
  split at hf
  · rename_i e
    exact wpAny_allTrue_And_cons (h env O A Y X ρ s true _ E R S e fun s₁ K₁ => h' env O A Y X ρ s₁ b _ E R (S.keeps K₁) hf fun s₂ K₂ => q s₂ (K₁.trans K₂))
  · rename_i e
    cases hf
    exact wpAny_allTrue_And_cons (h env O A Y X ρ s false _ E R S e fun s₁ K₁ => q s₁ K₁)
  · cases hf
theorem All_or_cons {f g : Rho → Option Bool} {e : Expr} {es : List Expr} (h : SimC prog w hb k Γ sc f e) (h' : SimAll prog w hb k Γ sc .Or g es) : SimAll prog w hb k Γ sc .Or (orC f g) (e :: es) := by
  intro env O A Y X ρ s b Q E R S hf q
  unfold orC at hf
  split at hf
  · rename_i e
    cases hf
    exact wpAny_allTrue_Or_cons (h env O A Y X ρ s true _ E R S e fun s₁ K₁ => q s₁ K₁)
  · rename_i e
    exact wpAny_allTrue_Or_cons (h env O A Y X ρ s false _ E R S e fun s₁ K₁ => h' env O A Y X ρ s₁ b _ E R (S.keeps K₁) hf fun s₂ K₂ => q s₂ (K₁.trans K₂))
  · cases hf
theorem C_bool {op : BoolOp} {f : Rho → Option Bool} {es : List Expr} {pos : Pos} (h : SimAll prog w hb k Γ sc op f es) : SimC prog w hb k Γ sc f (.BoolOp op es pos) :=
  fun env O A Y X ρ s b Q E R S hf q => wpAny_isTrue_BoolOp (h env O A Y X ρ s b Q E R S hf q)

noncomputable def ifD {α : Type} (c : Rho → Option Bool) (f g : Rho → Option α) (ρ : Rho) : Option α := match c ρ with
  | some true => f ρ
  | some false => g ρ
  | none => none
theorem R_ifexp {c : Rho → Option Bool} {f g : Rho → Option PyData} {t a b : Expr} {pos : Pos} (hc : SimC prog w hb k Γ sc c t) (hf : SimE prog w hb k Γ sc f a) (hg : SimE prog w hb k Γ sc g b) :
    SimE prog w hb k Γ sc (ifD c f g) (.IfExp t a b pos) := by
  intro env O A Y X ρ s d Q E R S h q
  unfold ifD at h
  split at h
  · rename_i e
    refine wpAny_IfExp (hc env O A Y X ρ s true _ E R S e fun s₁ K₁ => ?_)
    exact hf env O A Y X ρ s₁ d Q E R (S.keeps K₁) h fun v s₂ K₂ r => q v s₂ (K₁.trans K₂) r
  · rename_i e
    refine wpAny_IfExp (hc env O A Y X ρ s false _ E R S e fun s₁ K₁ => ?_)
    exact hg env O A Y X ρ s₁ d Q E R (S.keeps K₁) h fun v s₂ K₂ r => q v s₂ (K₁.trans K₂) r
  · cases h

/-! displays -/
noncomputable def SimL (prog : Program) (w : World) (hb : Heap) (k : Nat) (Γ : Lay) (sc : Scope) (f : Rho → Option (List PyData)) (es : List Expr) : Prop :=
  ∀ env, EnvOk hb sc env → ∀ (pos : Pos) (A : Around) (Y X : Addr → Prop) (ρ : Rho) (s : Shared) (ds : List PyData) (Q : List Value → Shared → Prop) (E : Value → Shared → Prop), Room k A → St hb Γ env Y X ρ s → f ρ = some ds →
    (∀ vs s', Kp s s' → Rvs X s'.heap vs ds → Q vs s') → wpAny (model prog w) A (spliced (backTo pos (starEach es env))) Q E s
noncomputable def consD (f : Rho → Option PyData) (g : Rho → Option (List PyData)) (ρ : Rho) : Option (List PyData) :=
  match f ρ, g ρ with
  | some a, some b => some (a :: b)
  | _, _ => none
theorem L_nil : SimL prog w hb k Γ sc (fun _ => some []) [] := fun env O pos A Y X ρ s ds Q E R S hf q => by cases hf; exact wpAny_items_nil (q [] s (Kp.refl s) .nil)
theorem L_cons {f : Rho → Option PyData} {g : Rho → Option (List PyData)} {e : Expr} {es : List Expr} (h : SimE prog w hb k Γ sc f e) (h' : SimL prog w hb k Γ sc g es)
    (he : ∀ env, starEach (e :: es) env = (false, eval e env) :: starEach es env) : SimL prog w hb k Γ sc (consD f g) (e :: es) := by
  intro env O pos A Y X ρ s ds Q E R S hf q
  unfold consD at hf
  split at hf
  · rename_i a b ha hb'
    cases hf
    refine wpAny_items_cons (h env O A Y X ρ s a _ E R S ha fun v s₁ K₁ r₁ => h' env O pos A Y X ρ s₁ b _ E R (S.keeps K₁) hb' fun vs s₂ K₂ r₂ => ?_) (he env)
    exact q _ s₂ (K₁.trans K₂) (.cons (r₁.keeps K₂.get) r₂)
  · cases hf
theorem Rv.newList {X : Addr → Prop} {h : Heap} {vs : List Value} {ds : List PyData} (hX : ∀ a, X a → ∃ o, h.get? a = some o) (r : Rvs X h vs ds) : Rv X (h.push { cls := .type "list", data := .seq vs.toArray }) (.ref h.objs.size) (.list ds) := by
  refine .list (fun x => ?_) (Heap.get?_push_size _ rfl) rfl rfl ?_
  · obtain ⟨o, e⟩ := hX _ x; exact absurd (Heap.lt_size e) (Nat.lt_irrefl _)
  · simpa using r.keeps fun _ _ e => Heap.get?_push_of_some _ e
theorem Rv.newTuple {X : Addr → Prop} {h : Heap} {vs : List Value} {ds : List PyData} (hX : ∀ a, X a → ∃ o, h.get? a = some o) (r : Rvs X h vs ds) : Rv X (h.push { cls := .type "tuple", data := .seq vs.toArray }) (.ref h.objs.size) (.tuple ds) := by
  refine .tuple (fun x => ?_) (Heap.get?_push_size _ rfl) rfl rfl ?_
  · obtain ⟨o, e⟩ := hX _ x; exact absurd (Heap.lt_size e) (Nat.lt_irrefl _)
  · simpa using r.keeps fun _ _ e => Heap.get?_push_of_some _ e
noncomputable def lim : Nat := 100000
theorem lim_line : lim ≤ sizeLine := by decide
noncomputable def listD (f : Rho → Option (List PyData)) (ρ : Rho) : Option PyData := match f ρ with
  | some l => if l.length ≤ lim then some (.list l) else none
  | none => none
theorem R_list {f : Rho → Option (List PyData)} {es : List Expr} {pos : Pos} (h : SimL prog w hb k Γ sc f es) : SimE prog w hb k Γ sc (listD f) (.List es pos) := by
  intro env O A Y X ρ s d Q E R S hf q
  unfold listD at hf
  split at hf
  · rename_i l e
    split at hf
    · rename_i hl
      cases hf
      refine wpAny_List (h env O pos A Y X ρ s l _ E R S e fun vs s₁ K₁ r₁ => ⟨?_, q _ _ (K₁.trans (Kp.push s₁ _)) (Rv.newList (S.keeps K₁).dom r₁)⟩)
      rw [r₁.length]; exact Nat.le_trans hl lim_line
    · cases hf
  · cases hf
end
end Mine


namespace Mine
section
variable {prog : Program} {w : World} {hb : Heap} {k : Nat} {Γ : Lay} {sc : Scope}

noncomputable def addD : PyData → PyData → Option PyData
  | .int a, .int b => some (.int (a + b))
  | .str x, .str y => if x.length + y.length ≤ lim then some (.str (x ++ y)) else none
  | .list x, .list y => if x.length + y.length ≤ lim then some (.list (x ++ y)) else none
  | _, _ => none
noncomputable def subD : PyData → PyData → Option PyData
  | .int a, .int b => some (.int (a - b))
  | _, _ => none
noncomputable def mulD : PyData → PyData → Option PyData
  | .int a, .int b => if a.natAbs ≤ 1000 ∧ b.natAbs ≤ 1000 then some (.int (a * b)) else none
  | _, _ => none
noncomputable def fdivD : PyData → PyData → Option PyData
  | .int a, .int b => if 0 < b ∧ b ≤ 1000 then some (.int (a.fdiv b)) else none
  | _, _ => none
noncomputable def fmodD : PyData → PyData → Option PyData
  | .int a, .int b => if 0 < b ∧ b ≤ 1000 then some (.int (a.fmod b)) else none
  | _, _ => none
noncomputable def shlD : PyData → PyData → Option PyData
  | .int a, .int b => if 0 ≤ b ∧ b ≤ 1000 ∧ a.natAbs ≤ 1000 then some (.int (a * 2 ^ b.toNat)) else none
  | _, _ => none
noncomputable def shrD : PyData → PyData → Option PyData
  | .int a, .int b => if 0 ≤ b ∧ b ≤ 1000 then some (.int (a.fdiv (2 ^ b.toNat))) else none
  | _, _ => none
noncomputable def andD : PyData → PyData → Option PyData
  | .int a, .int b => some (.int (Builtin.bitAnd a b))
  | _, _ => none

theorem Rb.int_inv {X : Addr → Prop} {h : Heap} {v : Value} {i : Int} (r : Rb X h v (.int i)) : ∃ t, v = .int i t := by
  cases r with
  | val r => cases r; exact ⟨_, rfl⟩
  | own _ e => cases e
theorem Rb.str_inv {X : Addr → Prop} {h : Heap} {v : Value} {i : Str} (r : Rb X h v (.str i)) : ∃ t, v = .str i t := by
  cases r with
  | val r => cases r; exact ⟨_, rfl⟩
  | own _ e => cases e
theorem Rb.list_inv {X : Addr → Prop} {h : Heap} {v : Value} {ds : List PyData} (r : Rb X h v (.list ds)) : ∃ a o vs n, v = .ref a ∧ h.get? a = some o ∧ PlainO "list" o vs n ∧ o.data = .seq vs n ∧ Rvs X h vs.toList ds := by
  cases r with
  | val r => cases r with | list x e c d r => exact ⟨_, _, _, _, rfl, e, c, d, r⟩
  | own e1 e2 e3 e4 e5 r => cases e2; exact ⟨_, _, _, _, e1, e3, e4, e5, r⟩
theorem Rv.list_inv {X : Addr → Prop} {h : Heap} {v : Value} {ds : List PyData} (r : Rv X h v (.list ds)) : ∃ a o vs n, v = .ref a ∧ ¬ X a ∧ h.get? a = some o ∧ PlainO "list" o vs n ∧ o.data = .seq vs n ∧ Rvs X h vs.toList ds := by
  cases r with | list x e c d r => exact ⟨_, _, _, _, rfl, x, e, c, d, r⟩

theorem small_bits {a : Int} (h : a.natAbs ≤ 1000) : Builtin.Int.intBits a ≤ 64 := intBits_le_64 (by omega) (by omega)
theorem mul_ok {a b : Int} (h : a.natAbs ≤ 1000) (h' : b.natAbs ≤ 1000) : IntMulOk a b := by
  have h1 := small_bits h
  have h2 := small_bits h'
  have e : ¬ Builtin.Int.intBits a > shortFactorBits := by have : shortFactorBits ≥ 64 := by decide
                                                           omega
  unfold IntMulOk
  simp [e]

theorem Op_add : OpOk prog w .Add addD := by
  intro A X s u v a b d Q E hu hX ra rb hF q
  cases a with
  | int x =>
    cases b with
    | int y =>
      cases hF
      obtain ⟨t, rfl⟩ := ra.int_inv
      obtain ⟨t', rfl⟩ := rb.int_inv
      exact add_int (q _ _ (Kp.tok s _) (.int _ _))
    | _ => cases hF
  | str x =>
    cases b with
    | str y =>
      simp only [addD] at hF
      split at hF
      · rename_i hl
        cases hF
        obtain ⟨t, rfl⟩ := ra.str_inv
        obtain ⟨t', rfl⟩ := rb.str_inv
        exact add_str (fun t' tk => q _ _ (Kp.tok s tk) (.str _ _)) (Nat.le_trans hl lim_line)
      · cases hF
    | _ => cases hF
  | list x =>
    cases b with
    | list y =>
      simp only [addD] at hF
      split at hF
      · rename_i hl
        cases hF
        obtain ⟨a, o, vs, n, rfl, e, c, dt, r⟩ := ra.list_inv
        obtain ⟨a', o', vs', n', rfl, e', c', dt', r'⟩ := rb.list_inv
        subst c c'
        have l1 := r.length
        have l2 := r'.length
        rw [Array.length_toList] at l1 l2
        refine concat_meets ⟨_, e, rfl⟩ ⟨_, e', rfl⟩ noFill_list_add seq_list_add PySem.F.slot_list_add PySem.F.entry_list_add (PySem.F.args_list_add_2 _ _)
          (list_addW a a' vs vs' n n' none none #[] #[] (by rw [l1, l2]; exact Nat.le_trans hl lim_line)) ⟨e, e', ?_⟩
        refine q _ _ (Kp.push s _) ?_
        have z := Rv.newList hX (r.append r')
        have e3 : (vs.toList ++ vs'.toList).toArray = vs ++ vs' := by simp
        rw [e3] at z
        exact z
      · cases hF
    | _ => cases hF
  | _ => cases hF

theorem Op_sub : OpOk prog w .Sub subD := by
  intro A X s u v a b d Q E hu hX ra rb hF q
  cases a with
  | int x =>
    cases b with
    | int y =>
      cases hF
      obtain ⟨t, rfl⟩ := ra.int_inv
      obtain ⟨t', rfl⟩ := rb.int_inv
      exact sub_int (q _ _ (Kp.tok s _) (.int _ _))
    | _ => cases hF
  | _ => cases hF
theorem Op_and : OpOk prog w .BitAnd andD := by
  intro A X s u v a b d Q E hu hX ra rb hF q
  cases a with
  | int x =>
    cases b with
    | int y =>
      cases hF
      obtain ⟨t, rfl⟩ := ra.int_inv
      obtain ⟨t', rfl⟩ := rb.int_inv
      exact and_int (q _ _ (Kp.tok s _) (.int _ _))
    | _ => cases hF
  | _ => cases hF
theorem Op_mul : OpOk prog w .Mult mulD := by
  intro A X s u v a b d Q E hu hX ra rb hF q
  cases a with
  | int x =>
    cases b with
    | int y =>
      simp only [mulD] at hF
      split at hF
      · rename_i hl
        cases hF
        obtain ⟨t, rfl⟩ := ra.int_inv
        obtain ⟨t', rfl⟩ := rb.int_inv
        exact mul_int (q _ _ (Kp.tok s _) (.int _ _)) (mul_ok hl.1 hl.2)
      · cases hF
    | _ => cases hF
  | _ => cases hF
theorem no_pylong {a b : Int} (h0 : 0 < b) (h : b ≤ 1000) : Builtin.divisionGoesByPylong a b = false := by
  unfold Builtin.divisionGoesByPylong
  have e : (b == 0) = false := by simpa using (by omega : b ≠ 0)
  have h2 : b.natAbs.log2 < 20 := by
    rw [Nat.log2_lt (by omega)]
    omega
  simp only [e, Bool.false_eq_true, if_false, Bool.and_eq_false_iff, decide_eq_false_iff_not]
  left
  omega
theorem Op_fdiv : OpOk prog w .FloorDiv fdivD := by
  intro A X s u v a b d Q E hu hX ra rb hF q
  cases a with
  | int x =>
    cases b with
    | int y =>
      simp only [fdivD] at hF
      split at hF
      · rename_i hl
        cases hF
        obtain ⟨t, rfl⟩ := ra.int_inv
        obtain ⟨t', rfl⟩ := rb.int_inv
        exact floordiv_int (by omega) (q _ _ (Kp.tok s _) (.int _ _)) (.inl (no_pylong hl.1 hl.2))
      · cases hF
    | _ => cases hF
  | _ => cases hF
theorem Op_fmod : OpOk prog w .Mod fmodD := by
  intro A X s u v a b d Q E hu hX ra rb hF q
  cases a with
  | int x =>
    cases b with
    | int y =>
      simp only [fmodD] at hF
      split at hF
      · rename_i hl
        cases hF
        obtain ⟨t, rfl⟩ := ra.int_inv
        obtain ⟨t', rfl⟩ := rb.int_inv
        exact mod_int' (by omega) (q _ _ (Kp.tok s _) (.int _ _))
      · cases hF
    | _ => cases hF
  | _ => cases hF
theorem Op_shl : OpOk prog w .LShift shlD := by
  intro A X s u v a b d Q E hu hX ra rb hF q
  cases a with
  | int x =>
    cases b with
    | int y =>
      simp only [shlD] at hF
      split at hF
      · rename_i hl
        cases hF
        obtain ⟨t, rfl⟩ := ra.int_inv
        obtain ⟨t', rfl⟩ := rb.int_inv
        exact lshift_int_small hl.1 (by omega) (by omega) (q _ _ (Kp.tok s _) (.int _ _))
      · cases hF
    | _ => cases hF
  | _ => cases hF
theorem Op_shr : OpOk prog w .RShift shrD := by
  intro A X s u v a b d Q E hu hX ra rb hF q
  cases a with
  | int x =>
    cases b with
    | int y =>
      simp only [shrD] at hF
      split at hF
      · rename_i hl
        cases hF
        obtain ⟨t, rfl⟩ := ra.int_inv
        obtain ⟨t', rfl⟩ := rb.int_inv
        exact rshift_int hl.1 (q _ _ (Kp.tok s _) (.int _ _))
      · cases hF
    | _ => cases hF
  | _ => cases hF

/-! comparisons -/
noncomputable def eqC (a b : PyData) : Option Bool := if SeqAt.shaped a && SeqAt.shaped b then some (a.eqv b) else none
noncomputable def neC (a b : PyData) : Option Bool := if SeqAt.shaped a && SeqAt.shaped b then some (!a.eqv b) else none
noncomputable def gtC : PyData → PyData → Option Bool
  | .int a, .int b => some (decide (b < a))
  | _, _ => none
noncomputable def inC : PyData → PyData → Option Bool
  | .str y, .str x => some (Txt.contains x y)
  | d, .list xs => if SeqAt.shaped (.list xs) && SeqAt.shaped d then some (xs.any fun y => y.eqv d) else none
  | _, _ => none
noncomputable def notInC : PyData → PyData → Option Bool
  | .str y, .str x => some (!Txt.contains x y)
  | d, .list xs => if SeqAt.shaped (.list xs) && SeqAt.shaped d then some (!xs.any fun y => y.eqv d) else none
  | _, _ => none

theorem Cmp_eq : CmpOk prog w .Eq eqC := by
  intro A X s u v a b d Q E hu ra rb hF q
  unfold eqC at hF
  split at hF
  · rename_i hs
    cases hF
    obtain ⟨as, r1⟩ := ra.reads
    obtain ⟨bs, r2⟩ := rb.reads
    rw [Bool.and_eq_true] at hs
    exact eq_dataH r1 r2 hs.1 hs.2 (by omega) (q s (Kp.refl s))
  · cases hF
theorem Cmp_ne : CmpOk prog w .NotEq neC := by
  intro A X s u v a b d Q E hu ra rb hF q
  unfold neC at hF
  split at hF
  · rename_i hs
    cases hF
    obtain ⟨as, r1⟩ := ra.reads
    obtain ⟨bs, r2⟩ := rb.reads
    rw [Bool.and_eq_true] at hs
    exact ne_dataH r1 r2 hs.1 hs.2 (by omega) (q s (Kp.refl s))
  · cases hF
theorem Cmp_gt : CmpOk prog w .Gt gtC := by
  intro A X s u v a b d Q E hu ra rb hF q
  cases a with
  | int x =>
    cases b with
    | int y =>
      cases hF
      obtain ⟨t, rfl⟩ := ra.int_inv
      obtain ⟨t', rfl⟩ := rb.int_inv
      exact PyProof.Rows.gt_int (q s (Kp.refl s))
    | _ => cases hF
  | _ => cases hF
theorem in_shape {xs : List PyData} {d : PyData} (h : (SeqAt.shaped (.list xs) && SeqAt.shaped d) = true) : PyData.canLayAll0 xs = true ∧ d.canLay0 = true ∧ min (PyData.depthAll xs) d.depth ≤ 64 := by
  rw [Bool.and_eq_true] at h
  obtain ⟨h1, h2⟩ := h
  unfold SeqAt.shaped at h1 h2
  rw [Bool.and_eq_true] at h1 h2
  have h3 := of_decide_eq_true h2.2
  refine ⟨?_, h2.1, Nat.le_trans (Nat.min_le_right _ _) h3⟩
  have := h1.1
  simpa [PyData.canLay0] using this
theorem Cmp_in : CmpOk prog w .In inC := by
  intro A X s u v a b d Q E hu ra rb hF q
  cases b with
  | str x =>
    cases a with
    | str y =>
      cases hF
      obtain ⟨t, rfl⟩ := ra.str_inv
      obtain ⟨t', rfl⟩ := rb.str_inv
      exact SB.contains (q s (Kp.refl s))
    | _ => simp [inC] at hF
  | list xs =>
    have hF' : (if SeqAt.shaped (.list xs) && SeqAt.shaped a then some (xs.any fun y => y.eqv a) else none) = some d := by cases a <;> exact hF
    split at hF'
    · rename_i hs
      cases hF'
      obtain ⟨as, r1⟩ := ra.reads
      obtain ⟨bs, r2⟩ := rb.reads
      obtain ⟨h1, h2, h3⟩ := in_shape hs
      exact SeqAt.in_list_reads r2 r1 h1 h2 (by omega) (q s (Kp.refl s))
    · cases hF'
  | _ => cases a <;> simp [inC] at hF
theorem Cmp_notIn : CmpOk prog w .NotIn notInC := by
  intro A X s u v a b d Q E hu ra rb hF q
  cases b with
  | str x =>
    cases a with
    | str y =>
      cases hF
      obtain ⟨t, rfl⟩ := ra.str_inv
      obtain ⟨t', rfl⟩ := rb.str_inv
      exact SB.notContains (q s (Kp.refl s))
    | _ => simp [notInC] at hF
  | list xs =>
    have hF' : (if SeqAt.shaped (.list xs) && SeqAt.shaped a then some (!xs.any fun y => y.eqv a) else none) = some d := by cases a <;> exact hF
    split at hF'
    · rename_i hs
      cases hF'
      obtain ⟨as, r1⟩ := ra.reads
      obtain ⟨bs, r2⟩ := rb.reads
      obtain ⟨h1, h2, h3⟩ := in_shape hs
      exact SeqAt.notIn_list_reads r2 r1 h1 h2 (by omega) (q s (Kp.refl s))
    · cases hF'
  | _ => cases a <;> simp [notInC] at hF
end
end Mine


namespace Mine
theorem Step.refl (Y X : Addr → Prop) (s : Shared) : Step Y X X s s := ⟨⟨s.heap, s.toks, rfl⟩, fun _ _ _ e => e, fun _ x => x, fun _ x => .inl x, fun _ o e => ⟨o, e⟩⟩
theorem Step.of_kp {Y X : Addr → Prop} {s s' : Shared} (K : Kp s s') : Step Y X X s s' := ⟨K.eqs, fun _ _ _ e => K.get _ _ e, fun _ x => x, fun _ x => .inl x, fun _ o e => ⟨o, K.get _ _ e⟩⟩
theorem Step.trans {Y X X' X'' : Addr → Prop} {s s' s'' : Shared} (a : Step Y X X' s s') (b : Step Y X' X'' s' s'') : Step Y X X'' s s'' := by
  refine ⟨?_, fun c o n e => b.keep c o n (a.keep c o (fun q => n ⟨b.grow c q.1, q.2⟩) e), fun c x => b.grow c (a.grow c x), fun c x => ?_, fun c o e => ?_⟩
  · obtain ⟨h, t, rfl⟩ := a.eqs
    obtain ⟨h', t', rfl⟩ := b.eqs
    exact ⟨h', t', rfl⟩
  · rcases b.fresh c x with q | q
    · exact a.fresh c q
    · cases e : s.heap.get? c with
      | none => exact .inr rfl
      | some o => obtain ⟨o', e'⟩ := a.ex c o e; rw [e'] at q; cases q
  · obtain ⟨o', e'⟩ := a.ex c o e
    exact b.ex c o' e'

section
variable {prog : Program} {w : World} {hb : Heap} {k : Nat} {Γ : Lay} {sc : Scope} {env : Env} {Y X : Addr → Prop} {ρ : Rho} {s : Shared}

theorem nodup_ne {i j : Nat} {x y : Str} {a b : Fl} (hn : (Γ.map (·.1)).Nodup) (hi : Γ[i]? = some (x, a)) (hj : Γ[j]? = some (y, b)) (h : j ≠ i) : y ≠ x := by
  intro e
  subst e
  have e1 : (Γ.map (·.1))[i]? = some y := by rw [List.getElem?_map, hi]; rfl
  have e2 : (Γ.map (·.1))[j]? = some y := by rw [List.getElem?_map, hj]; rfl
  obtain ⟨l1, q1⟩ := List.getElem?_eq_some_iff.mp e1
  obtain ⟨l2, q2⟩ := List.getElem?_eq_some_iff.mp e2
  exact h ((List.getElem_inj hn).mp (q2.trans q1.symm))

theorem Own.sameBut {h h' : Heap} {a b : Addr} {d : PyData} (r : Own Y X h a d) (hs : Heap.SameBut b h h') (hX : X b) (hne : a ≠ b) : Own Y X h' a d := by
  obtain ⟨o, vs, n, ds, x, y, e, c, dt, q, z⟩ := r
  exact ⟨o, vs, n, ds, x, y, hs.extBut _ _ hne e, c, dt, q, z.move fun a o nx e _ => ⟨nx, hs.extBut _ _ (fun q => nx (q ▸ hX)) e⟩⟩
theorem Rv.sameBut {h h' : Heap} {b : Addr} {v : Value} {d : PyData} (r : Rv X h v d) (hs : Heap.SameBut b h h') (hX : X b) : Rv X h' v d :=
  r.move fun a o nx e _ => ⟨nx, hs.extBut _ _ (fun q => nx (q ▸ hX)) e⟩

/-- the state behind a change of one volatile object `b` that leaves the frame's reads as `m'` says -/
theorem St.put {m' : Str → Option Value} {ρ' : Rho} {b : Addr} {h' : Heap} {tk : Nat} (S : St hb Γ env Y X ρ s) (hs : Heap.SameBut b s.heap h') (hX : X b) (hex : ∃ o, h'.get? b = some o) (V : Vars env h' m') (B : Binds Γ Y X h' m' ρ') :
    St hb Γ env Y X ρ' { s with heap := h', toks := tk } :=
  ⟨fun a o e => hs.extBut _ _ (fun q => by rw [q, S.old b hX] at e; cases e) (S.base a o e), ⟨m', V, B⟩, fun a x => by
    obtain ⟨o, e⟩ := S.dom a x
    by_cases q : a = b
    · subst q; exact hex
    · exact ⟨o, hs.extBut _ _ q e⟩, S.old, S.sub, S.locX, S.celX, S.celY, S.nd⟩
theorem Step.sameBut {b : Addr} {h' : Heap} {tk : Nat} (hs : Heap.SameBut b s.heap h') (hX : X b) (hY : ¬ Y b) (hex : ∃ o, h'.get? b = some o) : Step Y X X s { s with heap := h', toks := tk } :=
  ⟨⟨h', tk, rfl⟩, fun a o n e => hs.extBut _ _ (fun q => n (q ▸ ⟨hX, hY⟩)) e, fun _ x => x, fun _ x => .inl x, fun a o e => by
    by_cases q : a = b
    · subst q; exact hex
    · exact ⟨o, hs.extBut _ _ q e⟩⟩

theorem storeS {A : Around} {i : Nat} {x : Str} {v : Value} {d : PyData} {Q : Unit → Shared → Prop} {E : Value → Shared → Prop} (O : EnvOk hb sc env) (S : St hb Γ env Y X ρ s) (hi : Γ[i]? = some (x, .loc)) (hk : sc.names.lookup x = some .local ∨ sc.names.lookup x = some .cell)
    (r : Rv X s.heap v d) (q : ∀ s', Step Y X X s s' → St hb Γ env Y X (rset ρ i d) s' → Q () s') : wpAny (model prog w) A (storeName env x v) Q E s := by
  have hkf : env.scope.kind = .function := by rw [O.scope]; exact O.kind
  obtain ⟨m, V, B⟩ := S.vars
  have mk : ∀ (h' : Heap) (b : Addr), X b → ¬ Y b → Heap.SameBut b s.heap h' → (∀ a d, Own Y X s.heap a d → a ≠ b) → Binds Γ Y X h' (fun y => if y = x then some v else m y) (rset ρ i d) := by
    intro h' b hXb hYb hs hown
    refine ⟨fun j y fl e hj hfl he => ?_, fun j y e hj he => ?_, fun j j' y y' a e e' hj hj' he he' hm hm' => ?_⟩
    · rcases rget_rset ρ i j d he with ⟨rfl, rfl⟩ | ⟨hne, he⟩
      · rw [hi] at hj; cases hj
        exact ⟨v, if_pos rfl, r.sameBut hs hXb⟩
      · obtain ⟨u, hu, ru⟩ := B.val j y fl e hj hfl he
        exact ⟨u, by rw [if_neg (nodup_ne S.nd hi hj hne)]; exact hu, ru.sameBut hs hXb⟩
    · rcases rget_rset ρ i j d he with ⟨rfl, rfl⟩ | ⟨hne, he⟩
      · rw [hi] at hj; cases hj
      · obtain ⟨u, hu, ru⟩ := B.own j y e hj he
        exact ⟨u, by rw [if_neg (nodup_ne S.nd hi hj hne)]; exact hu, ru.sameBut hs hXb (hown _ _ ru)⟩
    · have f : ∀ {j : Nat} {y : Str} {e : PyData}, Γ[j]? = some (y, .own) → rget (rset ρ i d) j = some e → y ≠ x ∧ rget ρ j = some e := by
        intro j y e hj he
        rcases rget_rset ρ i j d he with ⟨rfl, rfl⟩ | ⟨hne, he⟩
        · rw [hi] at hj; cases hj
        · exact ⟨nodup_ne S.nd hi hj hne, he⟩
      obtain ⟨n1, he⟩ := f hj he
      obtain ⟨n2, he'⟩ := f hj' he'
      rw [if_neg n1] at hm
      rw [if_neg n2] at hm'
      exact B.sep j j' y y' a e e' hj hj' he he' hm hm'
  rcases hk with hk | hk
  · have hl : env.kindOf x = some .local := by unfold Env.kindOf; rw [O.scope]; exact hk
    obtain ⟨ml, hn, hml⟩ := V.ns
    refine wpAny_storeName_local hl hn (fun h' hn' hs => ?_) (by rw [hkf]; rfl)
    have hex : ∃ o, h'.get? env.locals = some o := let ⟨o, _, _, e, _⟩ := hn'; ⟨o, e⟩
    refine q _ (Step.sameBut hs S.locX.1 S.locX.2 hex) (S.put hs S.locX.1 hex ⟨⟨_, hn', fun y hy => ?_⟩, fun y hy => ?_⟩ (mk h' _ S.locX.1 S.locX.2 hs fun a d ow => ?_))
    · split
      · rfl
      · exact hml y hy
    · obtain ⟨c, h1, h2⟩ := V.cell y hy
      have hne : y ≠ x := by intro e; subst e; rw [hl] at hy; rcases hy with hy | hy <;> cases hy
      refine ⟨c, h1, ?_⟩
      rw [if_neg hne]
      exact h2.sameBut hs (O.sepL _ _ h1)
    · intro e
      subst e
      obtain ⟨o, vs, n, ds, _, _, e1, _, dt, _, _⟩ := ow
      obtain ⟨o', es, ep, e2, d2, _⟩ := hn
      rw [e1] at e2; cases e2; rw [dt] at d2; cases d2
  · have hl : env.kindOf x = some .cell := by unfold Env.kindOf; rw [O.scope]; exact hk
    obtain ⟨c, hc, hv⟩ := V.cell x (.inl hl)
    obtain ⟨ml, hn, hml⟩ := V.ns
    refine wpAny_storeName_cell hkf hl hc hv fun h' hv' hs => ?_
    have hX : X c ∧ ¬ Y c := ⟨S.celX _ _ hc, S.celY _ _ _ _ hi rfl hc⟩
    have hex : ∃ o, h'.get? c = some o := let ⟨o, e, _⟩ := hv'; ⟨o, e⟩
    refine q _ (Step.sameBut hs hX.1 hX.2 hex) (S.put hs hX.1 hex ⟨⟨ml, hn.sameBut hs (Ne.symm (O.sepL _ _ hc)), fun y hy => ?_⟩, fun y hy => ?_⟩ (mk h' _ hX.1 hX.2 hs fun a d ow => ?_))
    · have hne : y ≠ x := by intro e; subst e; rw [hl] at hy; cases hy
      rw [if_neg hne]; exact hml y hy
    · obtain ⟨c', h1, h2⟩ := V.cell y hy
      refine ⟨c', h1, ?_⟩
      by_cases e : y = x
      · subst e
        rw [hc] at h1; cases h1
        rw [if_pos rfl]; exact hv'
      · rw [if_neg e]
        exact h2.sameBut hs fun q => e (O.apart _ _ _ (q ▸ h1) hc)
    · intro e
      subst e
      obtain ⟨o, vs, n, ds, _, _, e1, _, dt, _, _⟩ := ow
      obtain ⟨o', e2, d2⟩ := hv
      rw [e1] at e2; cases e2; rw [dt] at d2; cases d2

/-- a target takes a value -/
noncomputable def SimA (prog : Program) (w : World) (hb : Heap) (k : Nat) (Γ : Lay) (sc : Scope) (bind : PyData → Rho → Option Rho) (t : Expr) : Prop :=
  ∀ env, EnvOk hb sc env → ∀ (A : Around) (Y X : Addr → Prop) (ρ ρ' : Rho) (s : Shared) (v : Value) (d : PyData) (Q : Unit → Shared → Prop) (E : Value → Shared → Prop), Room k A → St hb Γ env Y X ρ s → Rv X s.heap v d → bind d ρ = some ρ' →
    (∀ s' X', Step Y X X' s s' → St hb Γ env Y X' ρ' s' → Q () s') → wpAny (model prog w) A (assign t env v) Q E s
noncomputable def setN (i : Nat) (d : PyData) (ρ : Rho) : Option Rho := some (rset ρ i d)
noncomputable def isStore (sc : Scope) (x : Str) : Bool := match sc.names.lookup x with
  | some .local => true
  | some .cell => true
  | _ => false
theorem isStore_cases {x : Str} (h : isStore sc x = true) : sc.names.lookup x = some .local ∨ sc.names.lookup x = some .cell := by
  unfold isStore at h; split at h <;> simp_all
theorem A_name {i : Nat} {x : Str} {pos : Pos} (hi : Γ[i]? = some (x, .loc)) (hk : isStore sc x = true) : SimA prog w hb k Γ sc (setN i) (.Name x pos) := by
  intro env O A Y X ρ ρ' s v d Q E R S r hf q
  cases hf
  exact wpAny_assign_Name (storeS O S hi (isStore_cases hk) r fun s' st S' => q s' X st S')

/-! statements -/
noncomputable def seqS (f g : Rho → Option Out) (ρ : Rho) : Option Out := match f ρ with
  | some (.next ρ') => g ρ'
  | r => r
theorem S_nil : SimS prog w hb k Γ sc (fun ρ => some (.next ρ)) [] := by
  intro env O A Y X ρ s o Q E R S hf q
  cases hf
  exact wpAny_execs_nil (q .next s ⟨rfl, X, Step.refl _ _ _, S⟩)
theorem S_cons {f g : Rho → Option Out} {st : Stmt} {rest : List Stmt} (h : Sim1 prog w hb k Γ sc f st) (h' : SimS prog w hb k Γ sc g rest) : SimS prog w hb k Γ sc (seqS f g) (st :: rest) := by
  intro env O A Y X ρ s o Q E R S hf q
  unfold seqS at hf
  split at hf
  · rename_i ρ' e
    refine wpAny_execs_cons (h env O A Y X ρ s _ _ E R S e fun fl s₁ p => ?_)
    obtain ⟨rfl, X', st, S'⟩ := p
    refine h' env O A Y X' ρ' s₁ o Q E R S' hf fun fl s₂ p₂ => q fl s₂ ?_
    cases o with
    | next ρ₂ => obtain ⟨e2, X2, st2, S2⟩ := p₂; exact ⟨e2, X2, st.trans st2, S2⟩
    | brk ρ₂ => obtain ⟨e2, X2, st2, S2⟩ := p₂; exact ⟨e2, X2, st.trans st2, S2⟩
    | cont ρ₂ => obtain ⟨e2, X2, st2, S2⟩ := p₂; exact ⟨e2, X2, st.trans st2, S2⟩
    | ret d => obtain ⟨v, X2, e2, st2, r2⟩ := p₂; exact ⟨v, X2, e2, st.trans st2, r2⟩
  · rename_i hn
    refine wpAny_execs_cons (h env O A Y X ρ s o _ E R S hf fun fl s₁ p => ?_)
    cases o with
    | next ρ₂ => exact absurd hf (hn ρ₂)
    | brk ρ₂ => obtain ⟨rfl, z⟩ := p; exact q _ s₁ ⟨rfl, z⟩
    | cont ρ₂ => obtain ⟨rfl, z⟩ := p; exact q _ s₁ ⟨rfl, z⟩
    | ret d => obtain ⟨v, X2, rfl, z⟩ := p; exact q _ s₁ ⟨v, X2, rfl, z⟩

noncomputable def asg (f : Rho → Option PyData) (bind : PyData → Rho → Option Rho) (ρ : Rho) : Option Out := match f ρ with
  | some d => (bind d ρ).map .next
  | none => none
theorem asg_some {f : Rho → Option PyData} {bind : PyData → Rho → Option Rho} {o : Out} (h : asg f bind ρ = some o) : ∃ d ρ', f ρ = some d ∧ bind d ρ = some ρ' ∧ o = .next ρ' := by
  unfold asg at h
  split at h
  · rename_i d e
    cases q : bind d ρ with
    | none => rw [q] at h; cases h
    | some ρ' => rw [q] at h; cases h; exact ⟨d, ρ', e, q, rfl⟩
  · cases h
theorem S_assign {f : Rho → Option PyData} {i : Nat} {x : Str} {value : Expr} {p pos : Pos} (hi : Γ[i]? = some (x, .loc)) (hk : isStore sc x = true) (h : SimE prog w hb k Γ sc f value)
    (hs : ∀ env : Env, env.scope = sc → swapsWith value (some (.Name x p)) pos.line env = pure false) : Sim1 prog w hb k Γ sc (asg f (setN i)) (.Assign [.Name x p] value pos) := by
  intro env O A Y X ρ s o Q E R S hf q
  obtain ⟨d, ρ', h1, h2, rfl⟩ := asg_some hf
  cases h2
  refine wpAny_Assign_Name (h env O A Y X ρ s d _ E R S h1 fun v s₁ K₁ r => ?_) (hs env O.scope)
  exact storeS O (S.keeps K₁) hi (isStore_cases hk) r fun s' st S' => q .next s' ⟨rfl, X, (Step.of_kp K₁).trans st, S'⟩

noncomputable def retS (f : Rho → Option PyData) (ρ : Rho) : Option Out := (f ρ).map .ret
theorem retS_some {f : Rho → Option PyData} {o : Out} (h : retS f ρ = some o) : ∃ d, f ρ = some d ∧ o = .ret d := by
  unfold retS at h
  cases e : f ρ with
  | none => rw [e] at h; cases h
  | some d => rw [e] at h; cases h; exact ⟨d, rfl, rfl⟩
theorem S_return {f : Rho → Option PyData} {e : Expr} {pos : Pos} (h : SimE prog w hb k Γ sc f e) : Sim1 prog w hb k Γ sc (retS f) (.Return (some e) pos) := by
  intro env O A Y X ρ s o Q E R S hf q
  obtain ⟨d, h1, rfl⟩ := retS_some hf
  exact wpAny_Return_some (h env O A Y X ρ s d _ E R S h1 fun v s₁ K₁ r => q _ s₁ ⟨v, X, rfl, Step.of_kp K₁, r.reX fun a y => .inl (S.sub a y)⟩)
/-- an owned list leaves the frame -/
theorem S_return_own {i : Nat} {x : Str} {p pos : Pos} (hi : Γ[i]? = some (x, .own)) (hk : isVar sc x = true) (hd : (x == ("__debug__" : Str)) = false) (hc : (x == ("__classdict__" : Str)) = false) :
    Sim1 prog w hb k Γ sc (retS fun ρ => rget ρ i) (.Return (some (.Name x p)) pos) := by
  intro env O A Y X ρ s o Q E R S hf q
  obtain ⟨d, h1, rfl⟩ := retS_some hf
  obtain ⟨m, V, B⟩ := S.vars
  obtain ⟨a, hm, o, vs, n, ds, xa, ya, e, c, dt, rfl, r⟩ := B.own i x d hi h1
  exact wpAny_Return_some (load_var O V hk hm (q _ s ⟨_, X, rfl, Step.refl _ _ _, .list ya e c dt (r.reX fun a y => .inl (S.sub a y))⟩) hd hc)
theorem S_break {pos : Pos} : Sim1 prog w hb k Γ sc (fun ρ => some (.brk ρ)) (.Break pos) := by
  intro env O A Y X ρ s o Q E R S hf q
  cases hf
  exact wpAny_Break (q .brk s ⟨rfl, X, Step.refl _ _ _, S⟩)
theorem PostS.pre {s s₁ : Shared} {o : Out} {fl : Flow} {s' : Shared} (K : Kp s s₁) (p : PostS hb Γ env Y X s₁ o fl s') : PostS hb Γ env Y X s o fl s' := by
  cases o with
  | next ρ₂ => obtain ⟨e2, X2, st2, S2⟩ := p; exact ⟨e2, X2, (Step.of_kp K).trans st2, S2⟩
  | brk ρ₂ => obtain ⟨e2, X2, st2, S2⟩ := p; exact ⟨e2, X2, (Step.of_kp K).trans st2, S2⟩
  | cont ρ₂ => obtain ⟨e2, X2, st2, S2⟩ := p; exact ⟨e2, X2, (Step.of_kp K).trans st2, S2⟩
  | ret d => obtain ⟨v, X2, e2, st2, r2⟩ := p; exact ⟨v, X2, e2, (Step.of_kp K).trans st2, r2⟩
theorem S_if {c : Rho → Option Bool} {f g : Rho → Option Out} {t : Expr} {a b : List Stmt} {pos : Pos} (hc : SimC prog w hb k Γ sc c t) (hf : SimS prog w hb k Γ sc f a) (hg : SimS prog w hb k Γ sc g b) :
    Sim1 prog w hb k Γ sc (ifD c f g) (.If t a b pos) := by
  intro env O A Y X ρ s o Q E R S h q
  unfold ifD at h
  split at h
  · rename_i e
    refine wpAny_If (hc env O A Y X ρ s true _ E R S e fun s₁ K₁ => ?_)
    exact hf env O A Y X ρ s₁ o Q E R (S.keeps K₁) h fun fl s₂ p => q fl s₂ (p.pre K₁)
  · rename_i e
    refine wpAny_If (hc env O A Y X ρ s false _ E R S e fun s₁ K₁ => ?_)
    exact hg env O A Y X ρ s₁ o Q E R (S.keeps K₁) h fun fl s₂ p => q fl s₂ (p.pre K₁)
  · cases h
end
end Mine


namespace Mine
theorem dec_lt {a j : Nat} (h : j < a) : a + 1 - (j + 1) < a + 1 - j := by omega
noncomputable def ownedTuples : List String := ["enumerate", "zip", "dict_itemiterator", "dict_reverseitemiterator", "odict_iterator", "itertools.zip_longest", "itertools.pairwise"]

structure ItAt (prog : Program) (w : World) (X : Addr → Prop) (h₀ h : Heap) (I : Addr) (fp wr : List Addr) (P : Nat → Value → Prop) (St' : Nat → Heap → Prop) (ds : List PyData) : Prop where
  W : ∀ A : Around, A.handled = none → Walks prog w A I fp wr ds.length P St'
  st : St' 0 h
  fresh : ∀ b ∈ wr, h₀.get? b = none
  alive : ∀ i h, St' i h → ∀ b ∈ fp, ∃ o, h.get? b = some o
  rest : ∀ b ∈ fp, b ∉ wr → ¬ X b
  item : ∀ i v d, P i v → ds[i]? = some d → Rv (fun a => X a ∨ a ∈ wr) h v d
  safe : ∀ i h, St' i h → ∃ o, h.get? I = some o ∧ ∀ n vs, o.cls = .type n → o.data = .fields vs → ownedTuples.contains n = false

noncomputable def ItOk (prog : Program) (w : World) (X : Addr → Prop) (h₀ h : Heap) (it : Value) (ds : List PyData) : Prop :=
  ∃ I fp wr P St', it = .ref I ∧ ItAt prog w X h₀ h I fp wr P St' ds

noncomputable def SimI (prog : Program) (w : World) (hb : Heap) (k : Nat) (Γ : Lay) (sc : Scope) (f : Rho → Option (List PyData)) (e : Expr) : Prop :=
  ∀ env, EnvOk hb sc env → ∀ (A : Around) (Y X : Addr → Prop) (ρ : Rho) (s : Shared) (ds : List PyData) (Q : Value → Shared → Prop) (E : Value → Shared → Prop), Room k A → St hb Γ env Y X ρ s → f ρ = some ds →
    (∀ it s', Kp s s' → ItOk prog w X s.heap s'.heap it ds → Q it s') → wpAny (model prog w) A (eval e env) (fun x s₁ => wpAny (model prog w) A (pyIter x) Q E s₁) E s

theorem letGo_ok {M : Model} {A : Around} {E : Value → Shared → Prop} {s : Shared} {target : Expr} {I : Addr} {o : Obj} {v : Value} {Q : Unit → Shared → Prop} (ho : s.heap.get? I = some o)
    (hs : ∀ n vs, o.cls = .type n → o.data = .fields vs → ownedTuples.contains n = false) (h : Q () s) : wpAny M A (letOwnedTupleGo target (.ref I) v) Q E s := by
  unfold letOwnedTupleGo
  split
  · cases v with
    | ref a =>
      refine wpAny_bind (wpAny_load ho ?_)
      obtain ⟨c, dd, dt, sl⟩ := o
      dsimp only
      split
      · rename_i n vs
        have e : ownedTuples.contains n = false := hs n vs rfl rfl
        unfold ownedTuples at e
        rw [e]
        simp only [Bool.false_and, Bool.false_eq_true, if_false]
        exact wpAny_pure h
      · exact wpAny_pure h
    | _ => exact wpAny_pure h
  · cases v with
    | ref a =>
      refine wpAny_bind (wpAny_load ho ?_)
      obtain ⟨c, dd, dt, sl⟩ := o
      dsimp only
      split
      · rename_i n vs
        have e : ownedTuples.contains n = false := hs n vs rfl rfl
        unfold ownedTuples at e
        rw [e]
        simp only [Bool.false_and, Bool.false_eq_true, if_false]
        exact wpAny_pure h
      · exact wpAny_pure h
    | _ => exact wpAny_pure h
  · exact wpAny_pure h

section
variable {hb : Heap} {Γ : Lay} {env : Env} {Y X : Addr → Prop} {ρ : Rho} {s : Shared}
/-- fresh objects `wr` become volatile, and not ours -/
theorem St.guard {wr : List Addr} (S : St hb Γ env Y X ρ s) {s' : Shared} (K : Kp s s') (hf : ∀ b ∈ wr, s.heap.get? b = none) (he : ∀ b ∈ wr, ∃ o, s'.heap.get? b = some o) : St hb Γ env (fun a => Y a ∨ a ∈ wr) (fun a => X a ∨ a ∈ wr) ρ s' := by
  have no : ∀ a, X a → a ∉ wr := fun a x hw => by obtain ⟨o, e⟩ := S.dom a x; rw [hf a hw] at e; cases e
  have hg : ∀ a, (X a ∨ a ∈ wr) → X a ∨ s.heap.get? a = none := fun a x => x.imp id (hf a)
  refine ⟨fun a o e => K.get _ _ (S.base a o e), ?_, fun a x => ?_, fun a x => ?_, fun a y => y.imp (S.sub a) id, ⟨.inl S.locX.1, fun y => y.elim S.locX.2 (no _ S.locX.1)⟩, fun n c e => .inl (S.celX n c e),
    fun i n fl c a b e => fun y => y.elim (S.celY i n fl c a b e) (no _ (S.celX n c e)), S.nd⟩
  · obtain ⟨m, V, B⟩ := S.vars
    refine ⟨m, V.keeps K.get, fun i x fl d a b c => ?_, fun i x d a b => ?_, B.sep⟩
    · obtain ⟨v, p, r⟩ := B.val i x fl d a b c
      exact ⟨v, p, (r.reX hg).keeps K.get⟩
    · obtain ⟨u, p, o, vs, n, ds, xa, ya, e, c, dt, q, z⟩ := B.own i x d a b
      exact ⟨u, p, o, vs, n, ds, .inl xa, fun y => y.elim ya (no _ xa), K.get _ _ e, c, dt, q, (z.reX hg).keeps K.get⟩
  · rcases x with x | x
    · obtain ⟨o, e⟩ := S.dom a x; exact ⟨o, K.get _ _ e⟩
    · exact he a x
  · rcases x with x | x
    · exact S.old a x
    · cases e : hb.get? a with
      | none => rfl
      | some o => have e1 := S.base a o e; rw [hf a x] at e1; cases e1
/-- and back -/
theorem St.unguard {wr : List Addr} (S : St hb Γ env (fun a => Y a ∨ a ∈ wr) X ρ s) (hY : ∀ a, Y a → a ∉ wr) (hC : ∀ n c, env.cells.lookup n = some c → c ∉ wr) : St hb Γ env Y (fun a => X a ∧ a ∉ wr) ρ s := by
  have hg : ∀ a, (X a ∧ a ∉ wr) → X a ∨ s.heap.get? a = none := fun a x => .inl x.1
  refine ⟨S.base, ?_, fun a x => S.dom a x.1, fun a x => S.old a x.1, fun a y => ⟨S.sub a (.inl y), hY a y⟩, ⟨⟨S.locX.1, fun h => S.locX.2 (.inr h)⟩, fun y => S.locX.2 (.inl y)⟩, fun n c e => ⟨S.celX n c e, hC n c e⟩, fun i n fl c a b e y => S.celY i n fl c a b e (.inl y), S.nd⟩
  obtain ⟨m, V, B⟩ := S.vars
  refine ⟨m, V, fun i x fl d a b c => ?_, fun i x d a b => ?_, B.sep⟩
  · obtain ⟨v, p, r⟩ := B.val i x fl d a b c
    exact ⟨v, p, r.reX hg⟩
  · obtain ⟨u, p, o, vs, n, ds, xa, ya, e, c, dt, q, z⟩ := B.own i x d a b
    exact ⟨u, p, o, vs, n, ds, ⟨xa, fun h => ya (.inr h)⟩, fun y => ya (.inl y), e, c, dt, q, z.reX hg⟩
/-- the guarded objects are let go -/
theorem St.finish {wr : List Addr} {h' : Heap} {tk : Nat} (S : St hb Γ env (fun a => Y a ∨ a ∈ wr) X ρ s) (hY : ∀ a, Y a → a ∉ wr) (hC : ∀ n c, env.cells.lookup n = some c → c ∉ wr) (hk : ∀ b o, b ∉ wr → s.heap.get? b = some o → h'.get? b = some o) : St hb Γ env Y (fun a => X a ∧ a ∉ wr) ρ { s with heap := h', toks := tk } := by
  have hX : ∀ b ∈ wr, X b := fun b h => S.sub b (.inr h)
  have mv : ∀ a (o : Obj), ¬ X a → s.heap.get? a = some o → IsData o → ¬ (X a ∧ a ∉ wr) ∧ h'.get? a = some o := fun a o x e _ => ⟨fun z => x z.1, hk a o (fun h => x (hX a h)) e⟩
  refine ⟨fun a o e => hk a o (fun h => ?_) (S.base a o e), ?_, fun a x => ?_, fun a x => S.old a x.1, fun a y => ⟨S.sub a (.inl y), hY a y⟩, ⟨⟨S.locX.1, fun h => S.locX.2 (.inr h)⟩, fun y => S.locX.2 (.inl y)⟩, fun n c e => ⟨S.celX n c e, hC n c e⟩,
    fun i n fl c a b e y => S.celY i n fl c a b e (.inl y), S.nd⟩
  · rw [S.old a (hX a h)] at e; cases e
  · obtain ⟨m, V, B⟩ := S.vars
    refine ⟨m, ⟨?_, fun x hx => ?_⟩, fun i x fl d a b c => ?_, fun i x d a b => ?_, B.sep⟩
    · obtain ⟨ml, a, b⟩ := V.ns
      exact ⟨ml, a.at' fun o e => hk _ o (fun h => S.locX.2 (.inr h)) e, b⟩
    · obtain ⟨c, a, o, b, d⟩ := V.cell x hx
      exact ⟨c, a, o, hk _ o (hC _ _ a) b, d⟩
    · obtain ⟨v, p, r⟩ := B.val i x fl d a b c
      exact ⟨v, p, r.move mv⟩
    · obtain ⟨u, p, o, vs, n, ds, xa, ya, e, c, dt, q, z⟩ := B.own i x d a b
      exact ⟨u, p, o, vs, n, ds, ⟨xa, fun h => ya (.inr h)⟩, fun y => ya (.inl y), hk _ _ (fun h => ya (.inr h)) e, c, dt, q, z.move mv⟩
  · obtain ⟨o, e⟩ := S.dom a x.1; exact ⟨o, hk a o x.2 e⟩
/-- a change of guarded objects alone -/
theorem St.other {wr : List Addr} {h' : Heap} {tk : Nat} (S : St hb Γ env Y X ρ s) (hw : ∀ b ∈ wr, Y b) (hk : ∀ b o, b ∉ wr → s.heap.get? b = some o → h'.get? b = some o) (he : ∀ b ∈ wr, ∃ o, h'.get? b = some o)
    (hC : ∀ n c, env.cells.lookup n = some c → c ∉ wr) : St hb Γ env Y X ρ { s with heap := h', toks := tk } := by
  have hX : ∀ b ∈ wr, X b := fun b h => S.sub b (hw b h)
  have mv : ∀ a (o : Obj), ¬ X a → s.heap.get? a = some o → IsData o → ¬ X a ∧ h'.get? a = some o := fun a o x e _ => ⟨x, hk a o (fun h => x (hX a h)) e⟩
  refine ⟨fun a o e => hk a o (fun h => ?_) (S.base a o e), ?_, fun a x => ?_, S.old, S.sub, S.locX, S.celX, S.celY, S.nd⟩
  · rw [S.old a (hX a h)] at e; cases e
  · obtain ⟨m, V, B⟩ := S.vars
    refine ⟨m, ⟨?_, fun x hx => ?_⟩, fun i x fl d a b c => ?_, fun i x d a b => ?_, B.sep⟩
    · obtain ⟨ml, a, b⟩ := V.ns
      exact ⟨ml, a.at' fun o e => hk _ o (fun h => S.locX.2 (hw _ h)) e, b⟩
    · obtain ⟨c, a, o, b, d⟩ := V.cell x hx
      exact ⟨c, a, o, hk _ o (hC _ _ a) b, d⟩
    · obtain ⟨v, p, r⟩ := B.val i x fl d a b c
      exact ⟨v, p, r.move mv⟩
    · obtain ⟨u, p, o, vs, n, ds, xa, ya, e, c, dt, q, z⟩ := B.own i x d a b
      exact ⟨u, p, o, vs, n, ds, xa, ya, hk _ _ (fun h => ya (hw _ h)) e, c, dt, q, z.move mv⟩
  · by_cases h : a ∈ wr
    · exact he a h
    · obtain ⟨o, e⟩ := S.dom a x; exact ⟨o, hk a o h e⟩
end

noncomputable def loopD (bind : PyData → Rho → Option Rho) (body orelse : Rho → Option Out) : List PyData → Rho → Option Out
  | [], ρ => orelse ρ
  | d :: ds, ρ => match bind d ρ with
    | none => none
    | some ρ₁ => match body ρ₁ with
      | some (.next ρ₂) => loopD bind body orelse ds ρ₂
      | some (.cont ρ₂) => loopD bind body orelse ds ρ₂
      | some (.brk ρ₂) => some (.next ρ₂)
      | some (.ret d) => some (.ret d)
      | none => none
noncomputable def forD (fi : Rho → Option (List PyData)) (bind : PyData → Rho → Option Rho) (body orelse : Rho → Option Out) (ρ : Rho) : Option Out := match fi ρ with
  | some ds => loopD bind body orelse ds ρ
  | none => none

/-- within a loop: as Step, but the loop's own objects `wr` may change -/
structure LStep (wr : List Addr) (Y X X' : Addr → Prop) (s s' : Shared) : Prop where
  eqs : ∃ h' tk, s' = { s with heap := h', toks := tk }
  keep : ∀ a o, a ∉ wr → ¬ (X' a ∧ ¬ Y a) → s.heap.get? a = some o → s'.heap.get? a = some o
  grow : ∀ a, X a → X' a
  fresh : ∀ a, X' a → X a ∨ s.heap.get? a = none
  ex : ∀ a o, a ∉ wr → s.heap.get? a = some o → ∃ o', s'.heap.get? a = some o'
theorem LStep.refl (wr : List Addr) (Y X : Addr → Prop) (s : Shared) : LStep wr Y X X s s := ⟨⟨s.heap, s.toks, rfl⟩, fun _ _ _ _ e => e, fun _ x => x, fun _ x => .inl x, fun _ o _ e => ⟨o, e⟩⟩
theorem LStep.step {wr : List Addr} {Y X X' X'' : Addr → Prop} {s s' s'' : Shared} (a : LStep wr Y X X' s s') (b : Step Y X' X'' s' s'') (hX : ∀ c ∈ wr, X c) : LStep wr Y X X'' s s'' := by
  refine ⟨?_, fun c o hw n e => b.keep c o n (a.keep c o hw (fun q => n ⟨b.grow c q.1, q.2⟩) e), fun c x => b.grow c (a.grow c x), fun c x => ?_, fun c o hw e => ?_⟩
  · obtain ⟨h, t, rfl⟩ := a.eqs
    obtain ⟨h', t', rfl⟩ := b.eqs
    exact ⟨h', t', rfl⟩
  · rcases b.fresh c x with q | q
    · exact a.fresh c q
    · by_cases hw : c ∈ wr
      · exact .inl (hX c hw)
      · cases e : s.heap.get? c with
        | none => exact .inr rfl
        | some o => obtain ⟨o', e'⟩ := a.ex c o hw e; rw [e'] at q; cases q
  · obtain ⟨o', e'⟩ := a.ex c o hw e
    exact b.ex c o' e'
theorem LStep.other {wr : List Addr} {Y X X' : Addr → Prop} {s s' : Shared} {h' : Heap} {tk : Nat} (a : LStep wr Y X X' s s') (hk : ∀ b o, b ∉ wr → s'.heap.get? b = some o → h'.get? b = some o) : LStep wr Y X X' s { s' with heap := h', toks := tk } := by
  obtain ⟨h, t, rfl⟩ := a.eqs
  exact ⟨⟨h', tk, rfl⟩, fun c o hw n e => hk c o hw (a.keep c o hw n e), a.grow, a.fresh, fun c o hw e => let ⟨o', e'⟩ := a.ex c o hw e; ⟨o', hk c o' hw e'⟩⟩
theorem LStep.out {wr : List Addr} {Y X X' : Addr → Prop} {s s₂ s' : Shared} (K : Kp s s₂) (hf : ∀ b ∈ wr, s.heap.get? b = none) (hX : ∀ a, X a → ∃ o, s.heap.get? a = some o) (a : LStep wr (fun a => Y a ∨ a ∈ wr) (fun a => X a ∨ a ∈ wr) X' s₂ s') :
    Step Y X (fun a => X' a ∧ a ∉ wr) s s' := by
  have nw : ∀ c o, s.heap.get? c = some o → c ∉ wr := fun c o e h => by rw [hf c h] at e; cases e
  refine ⟨?_, fun c o n e => a.keep c o (nw c o e) (fun q => n ⟨⟨q.1, nw c o e⟩, fun y => q.2 (.inl y)⟩) (K.get c o e), fun c x => ?_, fun c x => ?_, fun c o e => a.ex c o (nw c o e) (K.get c o e)⟩
  · obtain ⟨h, t, rfl⟩ := K.eqs
    obtain ⟨h', t', rfl⟩ := a.eqs
    exact ⟨h', t', rfl⟩
  · obtain ⟨o, e⟩ := hX c x
    exact ⟨a.grow c (.inl x), nw c o e⟩
  · rcases a.fresh c x.1 with q | q
    · exact q.elim .inl fun h => absurd h x.2
    · cases e : s.heap.get? c with
      | none => exact .inr rfl
      | some o => rw [K.get c o e] at q; cases q

section
variable {prog : Program} {w : World} {hb : Heap} {k : Nat} {Γ : Lay} {sc : Scope}

theorem PostS.step {env : Env} {Y X X₁ : Addr → Prop} {s s₁ : Shared} {o : Out} {fl : Flow} {s' : Shared} (K : Step Y X X₁ s s₁) (p : PostS hb Γ env Y X₁ s₁ o fl s') : PostS hb Γ env Y X s o fl s' := by
  cases o with
  | next ρ₂ => obtain ⟨e2, X2, st2, S2⟩ := p; exact ⟨e2, X2, K.trans st2, S2⟩
  | brk ρ₂ => obtain ⟨e2, X2, st2, S2⟩ := p; exact ⟨e2, X2, K.trans st2, S2⟩
  | cont ρ₂ => obtain ⟨e2, X2, st2, S2⟩ := p; exact ⟨e2, X2, K.trans st2, S2⟩
  | ret d => obtain ⟨v, X2, e2, st2, r2⟩ := p; exact ⟨v, X2, e2, K.trans st2, r2⟩
theorem S_for {fi : Rho → Option (List PyData)} {bind : PyData → Rho → Option Rho} {fb fe : Rho → Option Out} {target iter : Expr} {body orelse : List Stmt} {pos : Pos}
    (hi : SimI prog w hb k Γ sc fi iter) (ht : SimA prog w hb k Γ sc bind target) (hbd : SimS prog w hb k Γ sc fb body) (hel : SimS prog w hb k Γ sc fe orelse) (hs : ∀ env x, foldedSetIterable iter env x = pure x) : Sim1 prog w hb k Γ sc (forD fi bind fb fe) (.For target iter body orelse pos) := by
  intro env O A Y X ρ s o Q E R S hf q
  unfold forD at hf
  split at hf
  · rename_i ds eds
    refine wpAny_For (hi env O A Y X ρ s ds _ E R S eds fun it s₂ K₂ hit => ?_) (hs env)
    obtain ⟨I, fp, wr, P, St', rfl, T⟩ := hit
    have W := T.W A R.1
    have S₂ := S.guard K₂ T.fresh (fun b hb => T.alive 0 _ T.st b (W.sub b hb))
    have hCn : ∀ n c, env.cells.lookup n = some c → c ∉ wr := fun n c e h => by obtain ⟨o, e'⟩ := S.dom c (S.celX n c e); rw [T.fresh c h] at e'; cases e'
    have hYn : ∀ a, Y a → a ∉ wr := fun a y h => by obtain ⟨o, e'⟩ := S.dom a (S.sub a y); rw [T.fresh a h] at e'; cases e'
    have outS : ∀ {X' : Addr → Prop} {s' : Shared}, LStep wr (fun a => Y a ∨ a ∈ wr) (fun a => X a ∨ a ∈ wr) X' s₂ s' → Step Y X (fun a => X' a ∧ a ∉ wr) s s' := fun l => LStep.out K₂ T.fresh S.dom l
    have hXw : ∀ c ∈ wr, (X c ∨ c ∈ wr) := fun c h => .inr h
    refine codeAny_forLoop_any (fun n s' => ∃ j X' ρ', n = ds.length + 1 - j ∧ j ≤ ds.length ∧ St' j s'.heap ∧ LStep wr (fun a => Y a ∨ a ∈ wr) (fun a => X a ∨ a ∈ wr) X' s₂ s' ∧ St hb Γ env (fun a => Y a ∨ a ∈ wr) X' ρ' s' ∧ loopD bind fb fe (ds.drop j) ρ' = some o)
      ?_ (ds.length + 1) ⟨0, _, ρ, rfl, Nat.zero_le _, T.st, LStep.refl _ _ _ _, S₂, hf⟩
    rintro n s' ⟨j, X', ρ', rfl, hj, hst, L, S', hl⟩
    rcases Nat.lt_or_ge j ds.length with hlt | hge
    · -- an item
      refine W.item j _ _ _ hlt hst fun v h₁ tk₁ hP hst₁ hk₁ => ?_
      have hal := T.alive _ _ hst₁
      have S₁ := S'.other (tk := tk₁) (fun b h => .inr h) hk₁ (fun b h => hal b (W.sub b h)) hCn
      have L₁ := L.other (tk := tk₁) hk₁
      have ed : ds[j]? = some ds[j] := List.getElem?_eq_getElem hlt
      have hr := T.item j v _ hP ed
      have hr₁ : Rv X' h₁ v ds[j] := hr.move fun a o nx e _ => by
        have h1 : ¬ X' a := fun x => (L.fresh a x).elim nx fun e' => by rw [e'] at e; cases e
        refine ⟨h1, hk₁ a o (fun h => nx (.inr h)) (L.keep a o (fun h => nx (.inr h)) (fun z => h1 z.1) e)⟩
      obtain ⟨oI, eI, sI⟩ := T.safe _ _ hst₁
      refine letGo_ok eI sI ?_
      rw [List.drop_eq_getElem_cons hlt] at hl
      unfold loopD at hl
      split at hl
      · cases hl
      · rename_i ρ₁ eb
        refine ht env O A _ X' ρ' ρ₁ _ v _ _ _ R S₁ hr₁ eb fun s₃ X₃ st₃ S₃ => ?_
        have L₃ := L₁.step st₃ hXw
        have keepSt : ∀ {i : Nat} {sa sb : Shared} {Xa Xb : Addr → Prop}, St' i sa.heap → LStep wr (fun a => Y a ∨ a ∈ wr) (fun a => X a ∨ a ∈ wr) Xb s₂ sb → Step (fun a => Y a ∨ a ∈ wr) Xa Xb sa sb → St' i sb.heap := by
          intro i sa sb Xa Xb h l st
          refine W.frame i _ _ h fun b hbf ob eb' => st.keep b ob (fun z => ?_) eb'
          by_cases hw : b ∈ wr
          · exact z.2 (.inr hw)
          · rcases l.fresh b z.1 with q' | q'
            · exact q'.elim (T.rest b hbf hw) hw
            · obtain ⟨oo, ee⟩ := T.alive 0 _ T.st b hbf
              rw [ee] at q'; cases q'
        have hst₃ := keepSt hst₁ L₃ st₃
        cases ebd : fb ρ₁ with
        | none => rw [ebd] at hl; cases hl
        | some out =>
          rw [ebd] at hl
          refine hbd env O A _ X₃ ρ₁ s₃ out _ _ R S₃ ebd fun fl s₄ p => ?_
          cases out with
          | next ρ₂ =>
            obtain ⟨rfl, X₄, st₄, S₄⟩ := p
            exact ⟨ds.length + 1 - (j + 1), dec_lt hlt, j + 1, X₄, ρ₂, rfl, hlt, keepSt hst₃ (L₃.step st₄ hXw) st₄, L₃.step st₄ hXw, S₄, hl⟩
          | cont ρ₂ =>
            obtain ⟨rfl, X₄, st₄, S₄⟩ := p
            exact ⟨ds.length + 1 - (j + 1), dec_lt hlt, j + 1, X₄, ρ₂, rfl, hlt, keepSt hst₃ (L₃.step st₄ hXw) st₄, L₃.step st₄ hXw, S₄, hl⟩
          | brk ρ₂ =>
            obtain ⟨rfl, X₄, st₄, S₄⟩ := p
            cases hl
            exact q _ s₄ ⟨rfl, _, outS (L₃.step st₄ hXw), S₄.unguard hYn hCn⟩
          | ret d =>
            obtain ⟨v', X₄, rfl, st₄, r₄⟩ := p
            cases hl
            exact q _ s₄ ⟨v', _, rfl, outS (L₃.step st₄ hXw), r₄.reX fun a y => .inl (.inl y)⟩
    · -- the end
      have hjn : j = ds.length := Nat.le_antisymm hj hge
      subst hjn
      rw [List.drop_length] at hl
      refine W.done _ _ _ hst fun h₁ tk₁ hk₁ => ?_
      exact hel env O A Y _ ρ' _ o _ _ R (S'.finish (tk := tk₁) hYn hCn hk₁) hl fun fl s₄ p => q fl s₄ (p.step (outS (L.other (tk := tk₁) hk₁)))
  · cases hf
end
end Mine


namespace Mine

/-! targets -/
inductive Tgt where
  | one (i : Nat)
  | tup (is : List Nat)
noncomputable def setAll : List Nat → List PyData → Rho → Option Rho
  | [], [], ρ => some ρ
  | i :: is, d :: ds, ρ => setAll is ds (rset ρ i d)
  | _, _, _ => none
noncomputable def bindT : Tgt → PyData → Rho → Option Rho
  | .one i, d, ρ => some (rset ρ i d)
  | .tup is, .list ds, ρ => setAll is ds ρ
  | .tup is, .tuple ds, ρ => setAll is ds ρ
  | _, _, _ => none
noncomputable def Tgt.ids : Tgt → List Nat
  | .one i => [i]
  | .tup is => is

noncomputable def mkRho (cap : List (Option Nat)) (ρ : Rho) : Rho := cap.map fun o => match o with
  | some i => rget ρ i
  | none => none
theorem rget_mkRho {cap : List (Option Nat)} {ρ : Rho} : ∀ {j : Nat} {d : PyData}, rget (mkRho cap ρ) j = some d → ∃ i, cap[j]? = some (some i) ∧ rget ρ i = some d := by
  induction cap with
  | nil => intro j d h; simp [mkRho, rget] at h
  | cons c cap ih =>
    intro j d h
    cases j with
    | zero =>
      cases c with
      | none => simp [mkRho, rget] at h
      | some i => exact ⟨i, rfl, by simpa [mkRho, rget] using h⟩
    | succ j =>
      obtain ⟨i, a, b⟩ := ih (j := j) (d := d) (by simpa [mkRho, rget] using h)
      exact ⟨i, by simpa using a, b⟩

noncomputable def Below (ρ ρ' : Rho) : Prop := ∀ i d, rget ρ i = some d → rget ρ' i = some d
theorem rget_rset_ne : ∀ (ρ : Rho) (i j : Nat) (d : PyData), j ≠ i → rget (rset ρ i d) j = rget ρ j
  | [], _, _, _, _ => rfl
  | _ :: _, 0, 0, _, h => absurd rfl h
  | _ :: _, 0, _ + 1, _, _ => rfl
  | _ :: _, _ + 1, 0, _, _ => rfl
  | _ :: r, i + 1, j + 1, d, h => rget_rset_ne r i j d (by omega)
theorem setAll_get : ∀ {is : List Nat} {ds : List PyData} {ρ ρ' : Rho}, setAll is ds ρ = some ρ' → ∀ j, j ∉ is → rget ρ' j = rget ρ j
  | [], [], ρ, ρ', h, j, _ => by cases h; rfl
  | i :: is, d :: ds, ρ, ρ', h, j, hj => by
    rw [setAll_get (is := is) h j (fun q => hj (.tail _ q)), rget_rset_ne ρ i j d fun q => hj (q ▸ .head _)]
  | [], _ :: _, _, _, h, _, _ => by cases h
  | _ :: _, [], _, _, h, _, _ => by cases h
theorem bindT_get {t : Tgt} {d : PyData} {ρ ρ' : Rho} (h : bindT t d ρ = some ρ') : ∀ j, j ∉ t.ids → rget ρ' j = rget ρ j := by
  intro j hj
  cases t with
  | one i => cases h; exact rget_rset_ne ρ i j d fun q => hj (q ▸ .head _)
  | tup is =>
    cases d with
    | list ds => exact setAll_get h j hj
    | tuple ds => exact setAll_get h j hj
    | _ => cases h
theorem bindT_below {t : Tgt} {d : PyData} {cap : List (Option Nat)} {ρ ρ' : Rho} (hc : ∀ j ∈ t.ids, cap[j]? = some none) (h : bindT t d (mkRho cap ρ) = some ρ') : Below (mkRho cap ρ) ρ' := by
  intro j e he
  by_cases hj : j ∈ t.ids
  · obtain ⟨i, a, _⟩ := rget_mkRho he
    rw [hc j hj] at a; cases a
  · rw [bindT_get h j hj]; exact he

noncomputable def compGo (ρ₀ : Rho) (t : Tgt) (ft : Rho → Option Bool) (fe : Rho → Option PyData) : List PyData → Option (List PyData)
  | [] => some []
  | d :: ds => match bindT t d ρ₀ with
    | none => none
    | some ρ₁ => match ft ρ₁ with
      | none => none
      | some false => compGo ρ₀ t ft fe ds
      | some true => match fe ρ₁ with
        | none => none
        | some e => match compGo ρ₀ t ft fe ds with
          | none => none
          | some l => some (e :: l)
noncomputable def compL (fi : Rho → Option (List PyData)) (cap : List (Option Nat)) (t : Tgt) (ft : Rho → Option Bool) (fe : Rho → Option PyData) (ρ : Rho) : Option (List PyData) := match fi ρ with
  | none => none
  | some ds => if ds.length ≤ lim then compGo (mkRho cap ρ) t ft fe ds else none
noncomputable def compD (fi : Rho → Option (List PyData)) (cap : List (Option Nat)) (t : Tgt) (ft : Rho → Option Bool) (fe : Rho → Option PyData) (ρ : Rho) : Option PyData := (compL fi cap t ft fe ρ).map .list

/-! the inner scope -/
noncomputable def relabelS (csc sc : Scope) : Scope := { csc with names := csc.names.map fun (n, k) => if (k == .free && sc.kind == .function && sc.names.lookup n == some .cell) then (n, .cell) else (n, k) }
theorem relabel_eq {csc sc : Scope} {env : Env} (h : env.scope = sc) : relabel csc env = relabelS csc sc := by
  subst h; rfl

noncomputable def clGo (cells : List (Str × Addr)) : List (Str × NameKind) → List (Str × Addr) → List (Str × Addr)
  | [], cs => cs
  | (n, k) :: r, cs => if k == .free then clGo cells r ((n, (cells.lookup n).getD 0) :: cs) else clGo cells r cs
theorem clGo_sub {cells : List (Str × Addr)} : ∀ {names : List (Str × NameKind)} {cs : List (Str × Addr)}, (∀ n, (n, NameKind.free) ∈ names → ∃ c, cells.lookup n = some c) → (∀ x c, cs.lookup x = some c → cells.lookup x = some c) →
    ∀ x c, (clGo cells names cs).lookup x = some c → cells.lookup x = some c
  | [], cs, _, h, x, c, e => h x c e
  | (n, k) :: r, cs, hn, h, x, c, e => by
    unfold clGo at e
    split at e
    · rename_i hk
      have hk : k = .free := by simpa using hk
      subst hk
      obtain ⟨a, ha⟩ := hn n (.head _)
      refine clGo_sub (fun m hm => hn m (.tail _ hm)) (fun y b e' => ?_) x c e
      rw [List.lookup_cons] at e'
      cases q : y == n with
      | true => rw [q] at e'; rw [ha] at e'; cases e'; rw [beq_iff_eq.mp q]; exact ha
      | false => rw [q] at e'; exact h y b e'
    · exact clGo_sub (fun m hm => hn m (.tail _ hm)) h x c e
theorem clGo_keep {cells : List (Str × Addr)} : ∀ {names : List (Str × NameKind)} {cs : List (Str × Addr)} (x : Str), (cs.lookup x).isSome = true → ((clGo cells names cs).lookup x).isSome = true
  | [], _, _, h => h
  | (n, k) :: r, cs, x, h => by
    unfold clGo
    split
    · refine clGo_keep x ?_
      rw [List.lookup_cons]
      cases x == n with
      | true => rfl
      | false => exact h
    · exact clGo_keep x h
theorem clGo_has {cells : List (Str × Addr)} : ∀ {names : List (Str × NameKind)} {cs : List (Str × Addr)} (x : Str), (x, NameKind.free) ∈ names → ((clGo cells names cs).lookup x).isSome = true
  | (n, k) :: r, cs, x, h => by
    unfold clGo
    rcases List.mem_cons.mp h with e | h
    · cases e
      rw [if_pos (by rfl)]
      refine clGo_keep _ ?_
      rw [List.lookup_cons, beq_self_eq_true]; rfl
    · split
      · exact clGo_has x h
      · exact clGo_has x h
theorem clGo_from {cells : List (Str × Addr)} : ∀ {names : List (Str × NameKind)} {cs : List (Str × Addr)} (x : Str) (c : Addr), (clGo cells names cs).lookup x = some c → (x, NameKind.free) ∈ names ∨ (cs.lookup x).isSome = true
  | [], cs, x, c, h => .inr (by have h' : cs.lookup x = some c := h
                                rw [h']; rfl)
  | (n, k) :: r, cs, x, c, h => by
    unfold clGo at h
    split at h
    · rename_i hk
      have hk : k = .free := by simpa using hk
      subst hk
      rcases clGo_from x c h with q | q
      · exact .inl (.tail _ q)
      · rw [List.lookup_cons] at q
        cases e : x == n with
        | true => exact .inl (by rw [beq_iff_eq.mp e]; exact .head _)
        | false => rw [e] at q; exact .inr q
    · exact (clGo_from x c h).imp (fun q => .tail _ q) id

theorem closure_is {csc : Scope} {env : Env} (h : ∀ n, (n, NameKind.free) ∈ csc.names → ∃ c, env.cells.lookup n = some c) : closureFor csc env = pure (clGo env.cells csc.names []) := by
  unfold closureFor
  have key : ∀ (names : List (Str × NameKind)) (cs : List (Str × Addr)), (∀ n, (n, NameKind.free) ∈ names → ∃ c, env.cells.lookup n = some c) →
      (forIn names cs fun (x : Str × NameKind) (r : List (Str × Addr)) => (match x with
        | (name, kind) => if (kind == NameKind.free) = true then do let a ← cellOf env name; pure (ForInStep.yield ((name, a) :: r)) else pure (ForInStep.yield r) : Sem (ForInStep (List (Str × Addr))))) = (pure (clGo env.cells names cs) : Sem _) := by
    intro names
    induction names with
    | nil => intro cs _; rfl
    | cons x r ih =>
      intro cs hn
      obtain ⟨n, k⟩ := x
      rw [List.forIn_cons]
      by_cases hk : (k == NameKind.free) = true
      · have hk' : k = .free := by simpa using hk
        subst hk'
        obtain ⟨c, hc⟩ := hn n (.head _)
        have e : cellOf env n = pure c := by unfold cellOf; rw [hc]
        simp only [beq_self_eq_true, if_true, e, pure_bind]
        refine (ih _ fun m hm => hn m (.tail _ hm)).trans ?_
        have e2 : clGo env.cells ((n, NameKind.free) :: r) cs = clGo env.cells r ((n, c) :: cs) := by
          rw [clGo, if_pos (by rfl), hc]; rfl
        rw [e2]
      · have e2 : clGo env.cells ((n, k) :: r) cs = clGo env.cells r cs := by rw [clGo, if_neg hk]
        rw [e2]
        simp only [if_neg hk, pure_bind]
        exact ih _ fun m hm => hn m (.tail _ hm)
  have := key csc.names [] h
  first
    | exact this
    | (rw [← this]; rfl)
    | (simp only [bind_pure]; exact this)

/-! new cells over a closure -/
theorem cells_mem : ∀ {names : List (Str × NameKind)} {n : Nat} {acc : List (Str × Addr)} {x : Str}, (x, NameKind.cell) ∈ names → ∃ c, (cellsFrom n names acc).lookup x = some c := by
  have keep : ∀ {names : List (Str × NameKind)} {n : Nat} {acc : List (Str × Addr)} {x : Str}, (∃ c, acc.lookup x = some c) → ∃ c, (cellsFrom n names acc).lookup x = some c := by
    intro names
    induction names with
    | nil => intro n acc x h; exact h
    | cons y r ih =>
      intro n acc x h
      obtain ⟨m, k⟩ := y
      unfold cellsFrom
      split
      · refine ih ?_
        rw [List.lookup_cons]
        cases x == m with
        | true => exact ⟨_, rfl⟩
        | false => exact h
      · exact ih h
  intro names
  induction names with
  | nil => intro n acc x h; cases h
  | cons y r ih =>
    intro n acc x h
    obtain ⟨m, k⟩ := y
    unfold cellsFrom
    rcases List.mem_cons.mp h with e | h
    · cases e
      rw [if_pos (by rfl)]
      refine keep ⟨n, ?_⟩
      rw [List.lookup_cons, beq_self_eq_true]
    · split
      · exact ih h
      · exact ih h
theorem cells_from : ∀ {names : List (Str × NameKind)} {h : Heap} {acc : List (Str × Addr)} {x : Str} {c : Addr}, (cellsFrom h.objs.size names acc).lookup x = some c →
    (acc.lookup x = some c ∧ (x, NameKind.cell) ∉ names) ∨ ((x, NameKind.cell) ∈ names ∧ h.objs.size ≤ c ∧ (pushCells h names).IsCell c none) := by
  have key : ∀ (names : List (Str × NameKind)) (h : Heap) (acc : List (Str × Addr)) (x : Str) (c : Addr) (P : Prop), (cellsFrom h.objs.size names acc).lookup x = some c →
      (acc.lookup x = some c → (x, NameKind.cell) ∉ names → P) → ((x, NameKind.cell) ∈ names → h.objs.size ≤ c → (pushCells h names).IsCell c none → P) →
      (∀ c, acc.lookup x = some c → (x, NameKind.cell) ∈ names → True) → P := by
    intro names
    induction names with
    | nil => intro h acc x c P e a _ _; exact a e (by simp)
    | cons y r ih =>
      intro h acc x c P e a b _
      obtain ⟨m, k⟩ := y
      unfold cellsFrom at e
      unfold pushCells at b
      by_cases hk : (k == NameKind.cell) = true
      · have hk' : k = .cell := by simpa using hk
        subst hk'
        rw [if_pos hk] at e
        have e' : (cellsFrom (h.push { cls := .type "cell", data := .cell none }).objs.size r ((m, h.objs.size) :: acc)).lookup x = some c := by rw [Heap.size_push]; exact e
        simp only [beq_self_eq_true, if_true] at b
        refine ih (h.push { cls := .type "cell", data := .cell none }) ((m, h.objs.size) :: acc) x c P e' (fun q hn => ?_) (fun hm hle hc => b (.tail _ hm) (by rw [Heap.size_push] at hle; omega) hc) fun _ _ _ => trivial
        rw [List.lookup_cons] at q
        cases hx : x == m with
        | true =>
          rw [hx] at q; cases q
          rw [beq_iff_eq.mp hx] at *
          exact b (.head _) (Nat.le_refl _) (Heap.IsCell.keeps ⟨_, Heap.get?_push_size _ rfl, rfl⟩ (pushCells_keeps r _))
        | false =>
          rw [hx] at q
          exact a q fun hm => by
            rcases List.mem_cons.mp hm with e2 | hm
            · cases e2; simp at hx
            · exact hn hm
      · rw [if_neg hk] at e
        rw [if_neg hk] at b
        refine ih h acc x c P e (fun q hn => a q fun hm => ?_) (fun hm hle hc => b (.tail _ hm) hle hc) fun _ _ _ => trivial
        rcases List.mem_cons.mp hm with e2 | hm
        · cases e2; exact absurd (by rfl) hk
        · exact hn hm
  intro names h acc x c e
  exact key names h acc x c _ e (fun a b => .inl ⟨a, b⟩) (fun a b c => .inr ⟨a, b, c⟩) fun _ _ _ => trivial
theorem cells_apart : ∀ {names : List (Str × NameKind)} {n : Nat} {acc : List (Str × Addr)}, (∀ x y c, acc.lookup x = some c → acc.lookup y = some c → x = y) → (∀ x c, acc.lookup x = some c → c < n) →
    ∀ x y c, (cellsFrom n names acc).lookup x = some c → (cellsFrom n names acc).lookup y = some c → x = y
  | [], _, _, h, _, x, y, c, a, b => h x y c a b
  | (m, k) :: r, n, acc, h, hl, x, y, c, a, b => by
    unfold cellsFrom at a b
    split at a
    · rename_i hk
      rw [if_pos hk] at b
      refine cells_apart (fun x y c a b => ?_) (fun x c a => ?_) x y c a b
      · rw [List.lookup_cons] at a b
        cases hx : x == m with
        | true =>
          rw [hx] at a
          cases hy : y == m with
          | true => rw [beq_iff_eq.mp hx, beq_iff_eq.mp hy]
          | false => rw [hy] at b; cases a; exact absurd (hl y _ b) (Nat.lt_irrefl _)
        | false =>
          rw [hx] at a
          cases hy : y == m with
          | true => rw [hy] at b; cases b; exact absurd (hl x _ a) (Nat.lt_irrefl _)
          | false => rw [hy] at b; exact h x y c a b
      · rw [List.lookup_cons] at a
        cases hx : x == m with
        | true => rw [hx] at a; cases a; exact Nat.lt_succ_self _
        | false => rw [hx] at a; exact Nat.lt_succ_of_lt (hl x c a)
    · rename_i hk
      rw [if_neg hk] at b
      exact cells_apart h hl x y c a b

theorem newEnv_comp {M : Model} {A : Around} {E : Value → Shared → Prop} {s : Shared} {csc : Scope} {env : Env} {cl : List (Str × Addr)} {Q : Env → Shared → Prop}
    (h : Q { scope := csc, locals := s.heap.objs.size, globals := env.globals, cells := cellsFrom (s.heap.objs.size + 1) csc.names cl, qual := env.qual, func := none, code := env.code, frame := env.frame, builtins := env.builtins }
      { s with heap := pushCells (s.heap.push { cls := .type "dict", data := .dict #[] }) csc.names }) :
    wpAny M A (newFunctionEnv csc env.globals cl [] env.qual none .none (some env)) Q E s := by
  simp only [newFunctionEnv, Option.isSome_some, if_true]
  refine wpAny_bind (wpAny_alloc ?_)
  refine wpAny_bind (wpAny_layCells _ (fun name kind cells => by cases hkc : kind == NameKind.cell <;> simp [hkc]) _ _ _ _ ?_)
  rw [show ({ s with heap := s.heap.push { cls := .type "dict", data := .dict #[] } } : Shared).heap.objs.size = s.heap.objs.size + 1 from Heap.size_push ..]
  exact wpAny_bind (wpAny_pure (wpAny_pure h))
end Mine


namespace Mine
section
variable {prog : Program} {w : World}
theorem compLoop_any {A : Around} {R : Result → Shared → Prop} {s : Shared} {elt target iter : Expr} {ifs : List Expr} {scope : Scope} {pos : Pos} {it acc : Value} {env : Env} (I : Nat → Shared → Prop)
    (turn : ∀ n s, I n s → wpAny (model prog w) A (pyNext it) (fun r s₁ => match r with
      | none => R (.ok .next) s₁
      | some v => wpAny (model prog w) A (letOwnedTupleGo target it v) (fun _ s₁' => wpAny (model prog w) A (assign target env v) (fun _ s₂ =>
          wpAny (model prog w) A (forIn ifs true fun c r => if r = true then do let ok ← PySem.isTrue c env (eval c env); pure (ForInStep.yield ok) else pure (ForInStep.yield r)) (fun ok s₃ =>
            if ok = true then wpAny (model prog w) A (eval elt env) (fun x s₄ =>
              wpAny (model prog w) A (call (.builtin "list.append") [acc, x]) (fun _ s₅ => ∃ m, m < n ∧ I m s₅) (notedBy (model prog w) A env fun e s' => R (.error e) s') s₄) (notedBy (model prog w) A env fun e s' => R (.error e) s') s₃
            else ∃ m, m < n ∧ I m s₃) (notedBy (model prog w) A env fun e s' => R (.error e) s') s₂) (notedBy (model prog w) A env fun e s' => R (.error e) s') s₁') (notedBy (model prog w) A env fun e s' => R (.error e) s') s₁) (notedBy (model prog w) A env fun e s' => R (.error e) s') s)
    (n : Nat) (h : I n s) : codeAny (model prog w) A (.compLoop (.ListComp elt [⟨target, iter, ifs, 0⟩] scope pos) 0 it acc env) R s := by
  refine codeAny_loop rfl I (fun n s hI => ?_) n h
  show wpAny _ A ((compTurn (.ListComp elt [⟨target, iter, ifs, 0⟩] scope pos) 0 it acc env).onRaise (fun x => do noteFrame x env; theTreesLotGoes x)) _ _ s
  refine wpAny_noted ?_
  rw [compTurn_list]
  refine wpAny_bind (wpAny_standAt (wpAny_bind (wpAny_mono (turn n s hI) (fun r s₁ h₁ => ?_) fun _ _ h' => h')))
  cases r with
  | none => exact wpAny_pure h₁
  | some v =>
    refine wpAny_bind (wpAny_mono h₁ (fun _ s₁' h₁' => ?_) fun _ _ h' => h')
    refine wpAny_bind (wpAny_mono h₁' (fun _ s₂ h₂ => wpAny_bind (wpAny_mono h₂ (fun ok s₃ h₃ => ?_) fun _ _ h' => h')) fun _ _ h' => h')
    cases ok with
    | false => exact wpAny_pure ⟨rfl, h₃⟩
    | true =>
      exact wpAny_bind (wpAny_bind (wpAny_mono h₃ (fun x s₄ h₄ => wpAny_bind (wpAny_mono h₄ (fun _ s₅ h₅ => wpAny_pure (wpAny_pure ⟨rfl, h₅⟩)) fun _ _ h' => h')) fun _ _ h' => h'))
end

noncomputable def isCap (sc : Scope) (x : Str) : Bool := match sc.names.lookup x with
  | some .cell => true
  | some .free => true
  | _ => false
noncomputable def compOk (Γ Γ' : Lay) (sc csc : Scope) (cap : List (Option Nat)) (t : Tgt) : Bool :=
  (csc.kind == .function && decide ((csc.names.map (·.1)).Nodup) && decide ((Γ'.map (·.1)).Nodup) && csc.names.all (fun p => p.2 != .free || isCap sc p.1)) &&
  ((List.range Γ'.length).all (fun j => match Γ'[j]?, cap[j]? with
     | some (x, fl), some (some i) => fl == .ro && csc.names.lookup x == some .free && (match Γ[i]? with | some (y, f) => y == x && f.plain | none => false)
     | some (x, fl), some none => fl == .loc && (csc.names.lookup x == some .local || csc.names.lookup x == some .cell)
     | _, _ => false) &&
  t.ids.all (fun j => cap[j]? == some none))

theorem lookup_of_nodup {α β : Type} [BEq α] [LawfulBEq α] : ∀ {l : List (α × β)} {x : α} {b : β}, (l.map (·.1)).Nodup → (x, b) ∈ l → l.lookup x = some b
  | (y, c) :: r, x, b, hn, h => by
    rw [List.map_cons, List.nodup_cons] at hn
    rw [List.lookup_cons]
    rcases List.mem_cons.mp h with e | h'
    · cases e; rw [beq_self_eq_true]
    · have : (x == y) = false := by
        rw [beq_eq_false_iff_ne]
        intro e
        subst e
        exact hn.1 (List.mem_map.mpr ⟨_, h', rfl⟩)
      rw [this]
      exact lookup_of_nodup hn.2 h'
theorem mem_of_lookup' {α β : Type} [BEq α] [LawfulBEq α] : ∀ {l : List (α × β)} {x : α} {b : β}, l.lookup x = some b → (x, b) ∈ l
  | (y, c) :: r, x, b, h => by
    rw [List.lookup_cons] at h
    cases q : x == y with
    | true => rw [q] at h; cases h; rw [eq_of_beq q]; exact .head _
    | false => rw [q] at h; exact .tail _ (mem_of_lookup' h)

/-- what kind a name has in the inner scope -/
theorem relabel_lookup (csc sc : Scope) (x : Str) : (relabelS csc sc).names.lookup x = match csc.names.lookup x with
    | some .free => if (sc.kind == .function && sc.names.lookup x == some .cell) = true then some .cell else some .free
    | r => r := by
  unfold relabelS
  dsimp only
  generalize csc.names = l
  induction l with
  | nil => rfl
  | cons p r ih =>
    obtain ⟨n, k⟩ := p
    rw [List.map_cons, List.lookup_cons]
    cases q : x == n with
    | true =>
      have e := eq_of_beq q
      subst e
      cases k with
      | free =>
        by_cases hc : (sc.kind == .function && sc.names.lookup x == some .cell) = true
        · have : (NameKind.free == NameKind.free && sc.kind == ScopeKind.function && List.lookup x sc.names == some NameKind.cell) = true := by simpa using hc
          rw [if_pos this]
          simp only [List.lookup_cons, beq_self_eq_true]
          rw [if_pos hc]
        · have : ¬ (NameKind.free == NameKind.free && sc.kind == ScopeKind.function && List.lookup x sc.names == some NameKind.cell) = true := by simpa using hc
          rw [if_neg this]
          simp only [List.lookup_cons, beq_self_eq_true]
          rw [if_neg hc]
      | _ => simp [List.lookup_cons]
    | false =>
      rw [show List.lookup x ((n, k) :: r) = List.lookup x r from by rw [List.lookup_cons, q]]
      refine Eq.trans ?_ ih
      dsimp only
      by_cases hc : (k == NameKind.free && sc.kind == ScopeKind.function && List.lookup n sc.names == some NameKind.cell) = true
      · rw [if_pos hc]; simp only [List.lookup_cons, q]
      · rw [if_neg hc]; simp only [List.lookup_cons, q]

structure CompFacts (Γ Γ' : Lay) (sc csc : Scope) (cap : List (Option Nat)) (t : Tgt) : Prop where
  kind : csc.kind = .function
  nd : (csc.names.map (·.1)).Nodup
  ndΓ : (Γ'.map (·.1)).Nodup
  free : ∀ n, (n, NameKind.free) ∈ csc.names → isCap sc n = true
  at' : ∀ (j : Nat) (x : Str) (fl : Fl), Γ'[j]? = some (x, fl) → (fl = .ro ∧ csc.names.lookup x = some .free ∧ ∃ (i : Nat) (f : Fl), cap[j]? = some (some i) ∧ Γ[i]? = some (x, f) ∧ f.plain = true) ∨
    (fl = .loc ∧ cap[j]? = some none ∧ (csc.names.lookup x = some .local ∨ csc.names.lookup x = some .cell))
  ids : ∀ j ∈ t.ids, cap[j]? = some none
theorem compOk_facts {Γ Γ' : Lay} {sc csc : Scope} {cap : List (Option Nat)} {t : Tgt} (h : compOk Γ Γ' sc csc cap t = true) : CompFacts Γ Γ' sc csc cap t := by
  unfold compOk at h
  obtain ⟨h1, h2⟩ := Bool.and_eq_true_iff.mp h
  obtain ⟨h1, h5⟩ := Bool.and_eq_true_iff.mp h1
  obtain ⟨h1, h4⟩ := Bool.and_eq_true_iff.mp h1
  obtain ⟨h1, h3⟩ := Bool.and_eq_true_iff.mp h1
  obtain ⟨h6, h7⟩ := Bool.and_eq_true_iff.mp h2
  refine ⟨by simpa using h1, of_decide_eq_true h3, of_decide_eq_true h4, fun n hn => ?_, fun j x fl hj => ?_, fun j hj => by simpa using List.all_eq_true.mp h7 j hj⟩
  · simpa using List.all_eq_true.mp h5 _ hn
  · have hl : j < Γ'.length := (List.getElem?_eq_some_iff.mp hj).1
    have q := List.all_eq_true.mp h6 j (List.mem_range.mpr hl)
    rw [hj] at q
    cases hc : cap[j]? with
    | none => rw [hc] at q; cases q
    | some o =>
      rw [hc] at q
      cases o with
      | some i =>
        dsimp only at q
        obtain ⟨q1, q2⟩ := Bool.and_eq_true_iff.mp q
        obtain ⟨q1, q3⟩ := Bool.and_eq_true_iff.mp q1
        left
        refine ⟨by simpa using q1, by simpa using q3, i, ?_⟩
        cases hg : Γ[i]? with
        | none => rw [hg] at q2; cases q2
        | some p =>
          obtain ⟨y, f⟩ := p
          rw [hg] at q2
          obtain ⟨q4, q5⟩ := Bool.and_eq_true_iff.mp q2
          have e : y = x := eq_of_beq q4
          subst e
          exact ⟨f, rfl, rfl, q5⟩
      | none =>
        dsimp only at q
        obtain ⟨q1, q2⟩ := Bool.and_eq_true_iff.mp q
        right
        refine ⟨by simpa using q1, rfl, ?_⟩
        rcases Bool.or_eq_true_iff.mp q2 with q2 | q2
        · exact .inl (by simpa using q2)
        · exact .inr (by simpa using q2)

noncomputable def SimTs (prog : Program) (w : World) (hb : Heap) (k : Nat) (Γ : Lay) (sc : Scope) (f : Rho → Option Bool) (ifs : List Expr) : Prop :=
  ∀ env, EnvOk hb sc env → ∀ (A : Around) (Y X : Addr → Prop) (ρ : Rho) (s : Shared) (b : Bool) (Q : Bool → Shared → Prop) (E : Value → Shared → Prop), Room k A → St hb Γ env Y X ρ s → f ρ = some b →
    (∀ s', Kp s s' → Q b s') → wpAny (model prog w) A (forIn ifs true fun c r => if r = true then do let ok ← PySem.isTrue c env (eval c env); pure (ForInStep.yield ok) else pure (ForInStep.yield r)) Q E s

section
variable {prog : Program} {w : World} {hb : Heap} {k : Nat} {Γ Γ' : Lay} {sc csc : Scope}
theorem T_nil : SimTs prog w hb k Γ sc (fun _ => some true) [] := fun env O A Y X ρ s b Q E R S hf q => by cases hf; exact wpAny_tests_nil (q s (Kp.refl s))
theorem T_one {f : Rho → Option Bool} {c : Expr} (h : SimC prog w hb k Γ sc f c) : SimTs prog w hb k Γ sc f [c] := fun env O A Y X ρ s b Q E R S hf q => wpAny_tests_one (h env O A Y X ρ s b Q E R S hf q)

/-- the inner environment -/
noncomputable def cEnv (csc sc : Scope) (env : Env) (C : Addr) (cl : List (Str × Addr)) : Env :=
  { scope := relabelS csc sc, locals := C, globals := env.globals, cells := cellsFrom (C + 1) csc.names cl, qual := env.qual, func := none, code := env.code, frame := env.frame, builtins := env.builtins }

theorem cEnv_start {oD : Obj} (hoD : oD.isFreed = false) {cap : List (Option Nat)} {t : Tgt} {env : Env} {Y X : Addr → Prop} {ρ : Rho} {s₂ : Shared} {wr : List Addr} (F : CompFacts Γ Γ' sc csc cap t) (O : EnvOk hb sc env) {s : Shared} (S : St hb Γ env Y X ρ s) (K : Kp s s₂)
    (hf : ∀ b ∈ wr, s.heap.get? b = none) (he : ∀ b ∈ wr, ∃ o, s₂.heap.get? b = some o) (D C : Nat) (h₅ : Heap) (cenv : Env) (eD : D = s₂.heap.objs.size) (eC : C = D + 1)
    (e5 : h₅ = pushCells ((s₂.heap.push oD).push { cls := .type "dict", data := .dict #[] }) csc.names) (ec : cenv = cEnv csc sc env C (clGo env.cells csc.names [])) :
    EnvOk hb (relabelS csc sc) cenv ∧
    St hb Γ' cenv (fun a => X a ∨ a ∈ D :: wr) (fun a => (X a ∨ a ∈ D :: wr) ∨ a = C ∨ (@LT.lt Nat _ C a ∧ ∃ n, cenv.cells.lookup n = some a)) (mkRho cap ρ) { s₂ with heap := h₅ } ∧
    (∀ b o, s₂.heap.get? b = some o → h₅.get? b = some o) ∧ h₅.get? D = some oD ∧ s₂.heap.get? C = none ∧ s₂.heap.get? D = none ∧ (∀ n c, cenv.cells.lookup n = some c → c ∉ D :: wr) := by
  have sz3 : (s₂.heap.push oD).objs.size = D + 1 := by rw [Heap.size_push, eD]
  have k23 : ∀ b o, s₂.heap.get? b = some o → (s₂.heap.push oD).get? b = some o := fun b o e => Heap.get?_push_of_some _ e
  generalize eh3 : (s₂.heap.push oD) = h₃ at *
  have k34 : ∀ b o, h₃.get? b = some o → (h₃.push { cls := .type "dict", data := .dict #[] }).get? b = some o := fun b o e => Heap.get?_push_of_some _ e
  have k45 := pushCells_keeps csc.names (h₃.push { cls := .type "dict", data := .dict #[] })
  rw [← e5] at k45
  have k25 : ∀ b o, s₂.heap.get? b = some o → h₅.get? b = some o := fun b o e => k45 _ _ (k34 _ _ (k23 _ _ e))
  have lt2 : ∀ (a : Nat) (o : Obj), s₂.heap.get? a = some o → a < D := by
    intro a o e
    have q : @LT.lt Nat _ a s₂.heap.objs.size := Heap.lt_size e
    omega
  have nD : s₂.heap.get? D = none := by cases e : s₂.heap.get? D with | none => rfl | some o => exact absurd (lt2 _ _ e) (Nat.lt_irrefl _)
  have nC : s₂.heap.get? C = none := by cases e : s₂.heap.get? C with | none => rfl | some o => have := lt2 _ _ e; omega
  have hn4 : (h₃.push { cls := .type "dict", data := .dict #[] }).Ns C fun _ => none := by have := Heap.Ns.new h₃ (.type "dict"); rw [sz3, ← eC] at this; exact this
  have hn5 : h₅.Ns C fun _ => none := hn4.keeps k45
  have sz4 : (h₃.push { cls := .type "dict", data := .dict #[] }).objs.size = C + 1 := by rw [Heap.size_push, sz3, eC]
  have hD5 : h₅.get? D = some oD := k45 _ _ (k34 _ _ (by rw [← eh3, eD]; exact Heap.get?_push_size _ hoD))
  have S₂ := S.keeps K
  have hcap : ∀ n, (n, NameKind.free) ∈ csc.names → ∃ c, env.cells.lookup n = some c ∧ s₂.heap.IsCell c (S₂.vars.choose n) := by
    intro n hn
    have V := S₂.vars.choose_spec.1
    have q := F.free n hn
    unfold isCap at q
    refine V.cell n ?_
    unfold Env.kindOf
    rw [O.scope]
    split at q <;> simp_all
  have hclo : ∀ n, (n, NameKind.free) ∈ csc.names → ∃ c, env.cells.lookup n = some c := fun n hn => let ⟨c, e, _⟩ := hcap n hn; ⟨c, e⟩
  have hcl : ∀ x c, (clGo env.cells csc.names []).lookup x = some c → env.cells.lookup x = some c := clGo_sub hclo fun x c e => by simp at e
  have hclf : ∀ x c, (clGo env.cells csc.names []).lookup x = some c → (x, NameKind.free) ∈ csc.names := fun x c e => (clGo_from x c e).elim id fun q => by simp at q
  have hlt : ∀ (x : Str) (c : Nat), (clGo env.cells csc.names []).lookup x = some c → c < D := fun x c e => by
    obtain ⟨o, e'⟩ := S₂.dom c (S₂.celX x c (hcl x c e))
    exact lt2 _ _ e'
  -- lookups of the inner cells
  have hlook : ∀ (x : Str) (c : Nat), cenv.cells.lookup x = some c → (env.cells.lookup x = some c ∧ (x, NameKind.free) ∈ csc.names ∧ c < D) ∨ ((x, NameKind.cell) ∈ csc.names ∧ C < c ∧ h₅.IsCell c none) := by
    intro x c e
    have e' : (cellsFrom (h₃.push { cls := .type "dict", data := .dict #[] }).objs.size csc.names (clGo env.cells csc.names [])).lookup x = some c := by rw [sz4]; rw [ec] at e; exact e
    rcases cells_from e' with ⟨a, _⟩ | ⟨a, b, d⟩
    · exact .inl ⟨hcl x c a, hclf x c a, hlt x c a⟩
    · refine .inr ⟨a, ?_, by rw [e5]; exact d⟩
      have b' : @LE.le Nat _ (h₃.push { cls := .type "dict", data := .dict #[] }).objs.size c := b
      omega
  have apart : ∀ n n' c, cenv.cells.lookup n = some c → cenv.cells.lookup n' = some c → n = n' := by
    rw [ec]
    exact fun n n' c => cells_apart (fun x y c a b => O.apart x y c (hcl x c a) (hcl y c b)) (fun x c a => by have := hlt x c a; show @LT.lt Nat _ c (C + 1); omega) n n' c
  have eL : cenv.locals = C := by rw [ec]; rfl
  have O' : EnvOk hb (relabelS csc sc) cenv := ⟨by rw [ec]; rfl, F.kind, by rw [ec]; exact O.globals, by rw [ec]; exact O.builtins, apart, fun n c e => by
    rw [eL]
    show @Ne Nat c C
    rcases hlook n c e with ⟨_, _, l⟩ | ⟨_, l, _⟩ <;> omega, fun n c e => by
    rw [relabel_lookup]
    rcases hlook n c e with ⟨_, q, _⟩ | ⟨q, _, _⟩
    · rw [lookup_of_nodup F.nd q]
      dsimp only
      split
      · exact .inl rfl
      · exact .inr rfl
    · rw [lookup_of_nodup F.nd q]
      exact .inl rfl⟩
  have cW : ∀ n c, cenv.cells.lookup n = some c → c ∉ D :: wr := by
    intro n (c : Nat) e h
    rcases hlook n c e with ⟨q, _, l⟩ | ⟨_, l, _⟩
    · rcases List.mem_cons.mp h with h | h
      · have h' : @Eq Nat c D := h
        omega
      · obtain ⟨o, e'⟩ := S.dom c (S.celX n c q)
        rw [hf c h] at e'; cases e'
    · rcases List.mem_cons.mp h with h | h
      · have h' : @Eq Nat c D := h
        omega
      · obtain ⟨o, e'⟩ := he c h
        have := lt2 _ _ e'
        omega
  refine ⟨O', ?_, k25, hD5, nC, nD, cW⟩
  have hXD : ∀ (a : Nat), X a → a < D := fun a x => by obtain ⟨o, e⟩ := S₂.dom a x; exact lt2 _ _ e
  have hwD : ∀ (b : Nat), b ∈ wr → b < D := fun b h => by obtain ⟨o, e⟩ := he b h; exact lt2 _ _ e
  have hbD : ∀ (a : Nat) (o : Obj), hb.get? a = some o → a < D := fun a o e => lt2 _ _ (S₂.base a o e)
  have hg : ∀ (a : Nat), ((X a ∨ a ∈ D :: wr) ∨ a = C ∨ (@LT.lt Nat _ C a ∧ ∃ n, cenv.cells.lookup n = some a)) → X a ∨ s.heap.get? a = none := by
    intro a h
    have low : ¬ a < D → s.heap.get? a = none := fun h => by
      cases e : s.heap.get? a with
      | none => rfl
      | some o => exact absurd (lt2 _ _ (K.get _ _ e)) h
    rcases h with (h | h) | h | h
    · exact .inl h
    · rcases List.mem_cons.mp h with h | h
      · exact .inr (low (by omega))
      · exact .inr (hf a h)
    · exact .inr (low (by omega))
    · exact .inr (low (by omega))
  obtain ⟨m, V, B⟩ := S.vars
  refine ⟨fun a o e => k25 a o (S₂.base a o e), ⟨fun x => if csc.names.lookup x = some .free then m x else none, ⟨⟨_, eL ▸ hn5, fun x hx => ?_⟩, fun x hx => ?_⟩, fun j x fl d a b c => ?_, fun j x d a b => ?_, fun i j x y a d e h1 h2 _ _ _ _ => ?_⟩,
    fun (a : Nat) x => ?_, fun (a : Nat) x => ?_, fun a y => .inl y, ⟨.inr (.inl eL), fun y => ?_⟩, fun n (c : Nat) e => ?_, fun i n fl (c : Nat) a b e y => ?_, F.ndΓ⟩
  · -- locals are unbound
    have hx' : (relabelS csc sc).names.lookup x = some .local := by rw [ec] at hx; exact hx
    rw [relabel_lookup] at hx'
    split at hx'
    · split at hx' <;> cases hx'
    · rw [if_neg (by rw [hx']; decide)]
  · -- cells
    have hx' : (relabelS csc sc).names.lookup x = some .cell ∨ (relabelS csc sc).names.lookup x = some .free := by rw [ec] at hx; exact hx
    rw [relabel_lookup] at hx'
    cases hk : csc.names.lookup x with
    | none => rw [hk] at hx'; simp at hx'
    | some kd =>
      rw [hk] at hx'
      cases kd with
      | free =>
        have hm := mem_of_lookup' hk
        obtain ⟨c, hc⟩ := Option.isSome_iff_exists.mp (clGo_has (cells := env.cells) (cs := []) x hm)
        have hncell : (x, NameKind.cell) ∉ csc.names := fun h => by have := lookup_of_nodup F.nd h; rw [hk] at this; cases this
        have hk2 : env.kindOf x = some .cell ∨ env.kindOf x = some .free := by
          have q := F.free x hm
          unfold isCap at q
          unfold Env.kindOf
          rw [O.scope]
          split at q <;> simp_all
        obtain ⟨c', e1, e2⟩ := V.cell x hk2
        have e3 := hcl x c hc
        have e4 : c = c' := by rw [e1] at e3; exact (Option.some.inj e3).symm
        subst e4
        have : ∀ (names : List (Str × NameKind)) (n : Nat) (acc : List (Str × Addr)), (x, NameKind.cell) ∉ names → (cellsFrom n names acc).lookup x = acc.lookup x := by
          intro names
          induction names with
          | nil => intro n acc _; rfl
          | cons p r ih =>
            intro n acc hnm
            obtain ⟨y, kk⟩ := p
            unfold cellsFrom
            split
            · rename_i hkk
              have hkk : kk = .cell := by simpa using hkk
              subst hkk
              rw [ih _ _ fun h => hnm (.tail _ h), List.lookup_cons]
              have : (x == y) = false := by rw [beq_eq_false_iff_ne]; intro e; subst e; exact hnm (.head _)
              rw [this]
            · exact ih _ _ fun h => hnm (.tail _ h)
        refine ⟨c, ?_, ?_⟩
        · rw [ec]
          show (cellsFrom (C + 1) csc.names (clGo env.cells csc.names [])).lookup x = some c
          rw [this _ _ _ hncell]; exact hc
        · rw [if_pos rfl]; exact (e2.keeps K.get).keeps k25
      | cell =>
        have hm := mem_of_lookup' hk
        obtain ⟨c, hc⟩ := cells_mem (n := C + 1) (acc := clGo env.cells csc.names []) hm
        have hc' : cenv.cells.lookup x = some c := by rw [ec]; exact hc
        refine ⟨c, hc', ?_⟩
        rw [if_neg (by decide)]
        rcases hlook x c hc' with ⟨_, q, _⟩ | ⟨_, _, q⟩
        · have := lookup_of_nodup F.nd q; rw [hk] at this; cases this
        · exact q
      | _ => simp at hx'
  · -- values
    obtain ⟨i, c1, c2⟩ := rget_mkRho c
    rcases F.at' j x fl a with ⟨_, hk, i', f, hc, hgi, hp⟩ | ⟨_, hc, _⟩
    · rw [hc] at c1; cases c1
      obtain ⟨v, p, r⟩ := B.val i x f d hgi hp c2
      refine ⟨v, by rw [if_pos hk]; exact p, ((r.reX hg).keeps K.get).keeps k25⟩
    · rw [hc] at c1; cases c1
  · rcases F.at' j x .own a with ⟨e, _⟩ | ⟨e, _⟩ <;> cases e
  · rcases F.at' i x .own h1 with ⟨e, _⟩ | ⟨e, _⟩ <;> cases e
  · -- dom
    rcases x with (x | x) | x | ⟨_, n, x⟩
    · obtain ⟨o, e⟩ := S₂.dom a x; exact ⟨o, k25 _ _ e⟩
    · rcases List.mem_cons.mp x with x | x
      · exact ⟨_, x ▸ hD5⟩
      · obtain ⟨o, e⟩ := he a x; exact ⟨o, k25 _ _ e⟩
    · obtain ⟨o, _, _, e, _⟩ := hn5; exact ⟨o, x ▸ e⟩
    · rcases hlook n a x with ⟨q, _, l⟩ | ⟨_, _, o, e, _⟩
      · obtain ⟨o, e⟩ := S₂.dom a (S₂.celX n a q); exact ⟨o, k25 _ _ e⟩
      · exact ⟨o, e⟩
  · -- old
    have low : ¬ a < D → hb.get? a = none := fun h => by
      cases e : hb.get? a with
      | none => rfl
      | some o => exact absurd (hbD a o e) h
    rcases x with (x | x) | x | ⟨l, _⟩
    · exact S.old a x
    · rcases List.mem_cons.mp x with x | x
      · have x' : @Eq Nat a D := x
        exact low (by omega)
      · cases e : hb.get? a with
        | none => rfl
        | some o => have := S.base a o e; rw [hf a x] at this; cases this
    · have x' : @Eq Nat a C := x
      exact low (by omega)
    · exact low (by omega)
  · -- the frame's own object is not the others'
    rw [eL] at y
    have hCD : ¬ C < D := by omega
    rcases y with y | y
    · exact hCD (hXD _ y)
    · rcases List.mem_cons.mp y with y | y
      · have y' : @Eq Nat C D := y
        omega
      · exact hCD (hwD _ y)
  · rcases hlook n c e with ⟨q, _, _⟩ | ⟨_, l, _⟩
    · exact .inl (.inl (S₂.celX n c q))
    · exact .inr (.inr ⟨l, n, e⟩)
  · rcases F.at' i n fl a with ⟨rfl, _⟩ | ⟨_, _, hk⟩
    · cases b
    · rcases hlook n c e with ⟨_, q, _⟩ | ⟨_, l, _⟩
      · have := lookup_of_nodup F.nd q
        rw [this] at hk; rcases hk with hk | hk <;> cases hk
      · have hc : ¬ c < D := by omega
        rcases y with y | y
        · exact hc (hXD _ y)
        · rcases List.mem_cons.mp y with y | y
          · have y' : @Eq Nat c D := y
            omega
          · exact hc (hwD _ y)
end
end Mine


namespace Mine
theorem St.weaken {hb : Heap} {Γ : Lay} {env : Env} {Y X : Addr → Prop} {ρ ρ' : Rho} {s : Shared} (S : St hb Γ env Y X ρ' s) (h : Below ρ ρ') : St hb Γ env Y X ρ s := by
  obtain ⟨m, V, B⟩ := S.vars
  exact ⟨S.base, ⟨m, V, fun i x fl d a b c => B.val i x fl d a b (h i d c), fun i x d a b => B.own i x d a (h i d b), fun i j x y a d e p q r t => B.sep i j x y a d e p q (h i d r) (h j e t)⟩, S.dom, S.old, S.sub, S.locX, S.celX, S.celY, S.nd⟩

section
variable {prog : Program} {w : World} {hb : Heap} {k : Nat} {Γ Γ' : Lay} {sc csc : Scope}

set_option maxHeartbeats 1000000 in
theorem comp_core {fi : Rho → Option (List PyData)} {cap : List (Option Nat)} {t : Tgt} {ft : Rho → Option Bool} {fe : Rho → Option PyData} {elt target iter : Expr} {ifs : List Expr} {pos pos₂ : Pos} {env : Env} {A : Around} {Y X : Addr → Prop} {ρ : Rho} {s : Shared}
    {l : List PyData} {use : Option (Value → Sem Unit)} {Q : Value → Shared → Prop} {E : Value → Shared → Prop}
    (hok : compOk Γ Γ' sc csc cap t = true) (hi : SimI prog w hb k Γ sc fi iter) (ht : SimA prog w hb k Γ' (relabelS csc sc) (bindT t) target) (htest : SimTs prog w hb k Γ' (relabelS csc sc) ft ifs) (helt : SimE prog w hb k Γ' (relabelS csc sc) fe elt)
    (hs : ∀ env x, foldedSetIterable iter env x = pure x)
    (O : EnvOk hb sc env) (R : Room k A) (S : St hb Γ env Y X ρ s) (hf : compL fi cap t ft fe ρ = some l)
    (hend : ∀ (D C : Addr) (s' : Shared) (o : Obj) (vs : Array Value) (n : Nat), Kp s s' → s.heap.get? D = none → s.heap.get? C = none → C ≠ D → s'.heap.get? D = some o → PlainO "list" o vs n → o.data = .seq vs n →
      Rvs (fun a => X a ∨ a = D ∨ a = C) s'.heap vs.toList l → (∃ m, s'.heap.Ns C m) → compPost (model prog w) A E use Q (.ref D) C (.ok .next) s') :
    wpAny (model prog w) A (comprehension (.ListComp elt [⟨target, iter, ifs, 0⟩] csc pos) csc env pos₂ (newList []) false (eval iter env) use) Q E s := by
  have F := compOk_facts hok
  unfold compL at hf
  split at hf
  · cases hf
  rename_i ds eds
  by_cases hlen : ds.length ≤ lim
  case neg => rw [if_neg hlen] at hf; cases hf
  rw [if_pos hlen] at hf
  obtain ⟨m₀, V₀, _⟩ := S.vars
  have hclo : ∀ n, (n, NameKind.free) ∈ csc.names → ∃ c, env.cells.lookup n = some c := fun n hn => by
    have q := F.free n hn
    unfold isCap at q
    have hk : env.kindOf n = some .cell ∨ env.kindOf n = some .free := by
      unfold Env.kindOf; rw [O.scope]
      split at q <;> simp_all
    obtain ⟨c, e, _⟩ := V₀.cell n hk
    exact ⟨c, e⟩
  refine wpAny_comprehension_free (cl := clGo env.cells csc.names []) rfl (hs env) (closure_is hclo) F.kind (fun x hx hl => lookup_of_nodup F.nd (by rw [← hl]; exact hx)) ?_
  refine hi env O A Y X ρ s ds _ E R S eds fun it s₂ K₂ hit => ?_
  obtain ⟨I, fp, wr, P, St', rfl, T⟩ := hit
  have W := T.W A R.1
  refine wpAny_newList (newEnv_comp ?_)
  obtain ⟨D, eD⟩ : ∃ D : Nat, D = s₂.heap.objs.size := ⟨_, rfl⟩
  obtain ⟨C, eC⟩ : ∃ C : Nat, C = D + 1 := ⟨_, rfl⟩
  have sz3 : (s₂.heap.push { cls := .type "list", data := .seq #[] }).objs.size = C := by rw [Heap.size_push, eC, eD]
  obtain ⟨h₅, e5⟩ : ∃ h₅ : Heap, h₅ = pushCells ((s₂.heap.push { cls := .type "list", data := .seq #[] }).push { cls := .type "dict", data := .dict #[] }) csc.names := ⟨_, rfl⟩
  obtain ⟨cenv, ec⟩ : ∃ cenv : Env, cenv = cEnv csc sc env C (clGo env.cells csc.names []) := ⟨_, rfl⟩
  obtain ⟨O', S₅, k25, hD5, nC, nD, cellW⟩ := cEnv_start (oD := { cls := .type "list", data := .seq #[] }) rfl (t := t) (cap := cap) F O S K₂ T.fresh (fun b hb => T.alive 0 _ T.st b (W.sub b hb)) D C h₅ cenv eD eC e5 ec
  have lt2 : ∀ (a : Nat) (o : Obj), s₂.heap.get? a = some o → a < D := by
    intro a o e
    have q : @LT.lt Nat _ a s₂.heap.objs.size := Heap.lt_size e
    omega
  have goalEnv : ({ scope := relabel csc env, locals := (s₂.heap.push { cls := .type "list", data := .seq #[] }).objs.size, globals := env.globals, cells := cellsFrom ((s₂.heap.push { cls := .type "list", data := .seq #[] }).objs.size + 1) csc.names (clGo env.cells csc.names []), qual := env.qual, func := none, code := env.code, frame := env.frame, builtins := env.builtins } : Env) = cenv := by
    rw [ec, sz3, relabel_eq O.scope]; rfl
  have eL : cenv.locals = C := by rw [ec]; rfl
  show codeAny (model prog w) A (.compStart _ 0 (.ref I) (.ref s₂.heap.objs.size) ({ scope := relabel csc env, locals := (s₂.heap.push { cls := .type "list", data := .seq #[] }).objs.size, globals := env.globals, cells := cellsFrom ((s₂.heap.push { cls := .type "list", data := .seq #[] }).objs.size + 1) csc.names (clGo env.cells csc.names []), qual := env.qual, func := none, code := env.code, frame := env.frame, builtins := env.builtins } : Env))
    (compPost (model prog w) A E use Q (.ref s₂.heap.objs.size) (s₂.heap.push { cls := .type "list", data := .seq #[] }).objs.size)
    { s₂ with heap := pushCells ((s₂.heap.push { cls := .type "list", data := .seq #[] }).push { cls := .type "dict", data := .dict #[] }) csc.names }
  rw [goalEnv, ← e5, sz3, ← eD]
  clear goalEnv
  -- the facts of the sets
  generalize hY₀ : (fun a : Addr => X a ∨ a ∈ D :: wr) = Y₀ at S₅
  generalize hX₀ : (fun a : Addr => (X a ∨ a ∈ D :: wr) ∨ a = C ∨ (@LT.lt Nat _ C a ∧ ∃ n, cenv.cells.lookup n = some a)) = X₀ at S₅
  have wrY : ∀ b ∈ D :: wr, Y₀ b := fun b h => by rw [← hY₀]; exact .inr h
  have XY : ∀ b, X b → Y₀ b := fun b h => by rw [← hY₀]; exact .inl h
  have Yc : ∀ b, Y₀ b → X b ∨ b ∈ D :: wr := fun b h => by rw [← hY₀] at h; exact h
  have oldX : ∀ b o, s₂.heap.get? b = some o → X₀ b → X b ∨ b ∈ wr := by
    intro b o e h
    have l := lt2 b o e
    rw [← hX₀] at h
    rcases h with (h | h) | h | h
    · exact .inl h
    · rcases List.mem_cons.mp h with h | h
      · have h' : @Eq Nat b D := h
        omega
      · exact .inr h
    · have h' : @Eq Nat b C := h
      omega
    · have h' := h.1
      omega
  have XinX₀ : ∀ b, X b → X₀ b := fun b h => by rw [← hX₀]; exact .inl (.inl h)
  have wrX₀ : ∀ b ∈ D :: wr, X₀ b := fun b h => by rw [← hX₀]; exact .inl (.inr h)
  have CX₀ : X₀ C := by rw [← hX₀]; exact .inr (.inl rfl)
  have wr2 : ∀ b ∈ wr, ∃ o, s₂.heap.get? b = some o := fun b hb => T.alive 0 _ T.st b (W.sub b hb)
  have Dwr : D ∉ wr := fun h => by obtain ⟨o, e⟩ := wr2 D h; rw [nD] at e; cases e
  have nYC : ¬ Y₀ C := by have := S₅.locX.2; rw [eL] at this; exact this
  have Cwr : C ∉ D :: wr := fun h => nYC (wrY C h)
  have CD : C ≠ D := fun h => Cwr (h ▸ .head _)
  -- the loop
  let Inv : Nat → Shared → Prop := fun n s' => ∃ j X' ρ' o ys nn out, n = ds.length + 1 - j ∧ j ≤ ds.length ∧ St' j s'.heap ∧ LStep (D :: wr) Y₀ X₀ X' { s₂ with heap := h₅ } s' ∧ St hb Γ' cenv Y₀ X' ρ' s' ∧ Below (mkRho cap ρ) ρ' ∧
    s'.heap.get? D = some o ∧ PlainO "list" o ys nn ∧ o.data = .seq ys nn ∧ Rvs X' s'.heap ys.toList out ∧ out.length ≤ j ∧ ∃ rest, compGo (mkRho cap ρ) t ft fe (ds.drop j) = some rest ∧ out ++ rest = l
  have start : Inv (ds.length + 1) { s₂ with heap := h₅ } := by
    exact ⟨0, X₀, mkRho cap ρ, _, _, 0, [], rfl, Nat.zero_le _, W.frame _ _ _ T.st fun b _ o e => k25 b o e, LStep.refl _ _ _ _, S₅, fun _ _ e => e, hD5, rfl, rfl, .nil, Nat.le_refl _, l, hf, rfl⟩
  have loop : codeAny (model prog w) A (.compLoop (.ListComp elt [⟨target, iter, ifs, 0⟩] csc pos) 0 (.ref I) (.ref D) cenv) (compPost (model prog w) A E use Q (.ref D) C) { s₂ with heap := h₅ } := by
    refine compLoop_any Inv ?_ (ds.length + 1) start
    rintro n s' ⟨j, X', ρ', o, ys, nn, out, rfl, hj, hst, L, S', hbel, eo, co, dto, rout, hol, rest, hgo, happ⟩
    have frameSt : ∀ {i : Nat} {sa sb : Shared}, St' i sa.heap → (∀ b ∈ fp, ∀ ob, sa.heap.get? b = some ob → sb.heap.get? b = some ob) → St' i sb.heap := fun h q => W.frame _ _ _ h q
    have fpD : D ∉ fp := fun h => by obtain ⟨o, e⟩ := T.alive 0 _ T.st D h; rw [nD] at e; cases e
    have fpX : ∀ {Xb : Addr → Prop} {sb : Shared}, LStep (D :: wr) Y₀ X₀ Xb { s₂ with heap := h₅ } sb → ∀ b ∈ fp, b ∉ wr → ¬ Xb b := by
      intro Xb sb l b hb hw hx
      obtain ⟨ob, eb⟩ := T.alive 0 _ T.st b hb
      rcases l.fresh b hx with q | q
      · rcases oldX b ob eb q with q | q
        · exact T.rest b hb hw q
        · exact hw q
      · have q' : h₅.get? b = none := q
        rw [k25 b ob eb] at q'; cases q'
    rcases Nat.lt_or_ge j ds.length with hlt | hge
    · refine W.item j _ _ _ hlt hst fun v h₁ tk₁ hP hst₁ hk₁ => ?_
      have hal := T.alive _ _ hst₁
      have S₁ := (S'.weaken hbel).other (wr := wr) (h' := h₁) (tk := tk₁) (fun b h => wrY b (.tail _ h)) hk₁ (fun b h => hal b (W.sub b h)) fun n c e h => cellW n c e (.tail _ h)
      have L₁ := L.other (h' := h₁) (tk := tk₁) fun b o hb e => hk₁ b o (fun h => hb (.tail _ h)) e
      have ed : ds[j]? = some ds[j] := List.getElem?_eq_getElem hlt
      have hr := T.item j v _ hP ed
      have hr₁ : Rv X' h₁ v ds[j] := hr.move fun a o nx e _ => by
        have h1 : ¬ X' a := fun x => by
          rcases L.fresh a x with q | q
          · exact nx (oldX a o e q)
          · have q' : h₅.get? a = none := q
            rw [k25 a o e] at q'; cases q'
        have h2 : a ∉ D :: wr := fun h => h1 (L.grow a (wrX₀ a h))
        exact ⟨h1, hk₁ a o (fun h => h2 (.tail _ h)) (L.keep a o h2 (fun z => h1 z.1) (k25 a o e))⟩
      have rout₁ : Rvs X' h₁ ys.toList out := rout.move fun a o nx e _ => ⟨nx, hk₁ a o (fun h => nx (L.grow a (wrX₀ a (.tail _ h)))) e⟩
      have eo₁ : h₁.get? D = some o := hk₁ D o Dwr eo
      obtain ⟨oI, eI, sI⟩ := T.safe _ _ hst₁
      refine letGo_ok eI sI ?_
      rw [List.drop_eq_getElem_cons hlt] at hgo
      unfold compGo at hgo
      cases eb : bindT t ds[j] (mkRho cap ρ) with
      | none => rw [eb] at hgo; cases hgo
      | some ρ₁ =>
        rw [eb] at hgo
        dsimp only at hgo
        refine ht cenv O' A Y₀ X' _ ρ₁ _ v ds[j] _ _ R S₁ hr₁ eb fun s₃ X₃ st₃ S₃ => ?_
        have L₃ := L₁.step st₃ wrX₀
        have hbel₃ := bindT_below F.ids eb
        have hst₃ : St' (j + 1) s₃.heap := frameSt (sa := { s' with heap := h₁, toks := tk₁ }) hst₁ fun b hb ob e => st₃.keep b ob (fun z => by
          by_cases hw : b ∈ wr
          · exact z.2 (wrY b (.tail _ hw))
          · exact fpX L₃ b hb hw z.1) e
        have eo₃ : s₃.heap.get? D = some o := st₃.keep D o (fun z => z.2 (wrY D (.head _))) eo₁
        have rout₃ : Rvs X₃ s₃.heap ys.toList out := rout₁.move fun a o nx e _ => by
          have h3 : ¬ X₃ a := fun x => (st₃.fresh a x).elim nx fun q => by
            have q' : h₁.get? a = none := q
            rw [e] at q'; cases q'
          exact ⟨h3, st₃.keep a o (fun z => h3 z.1) e⟩
        cases et : ft ρ₁ with
        | none => rw [et] at hgo; cases hgo
        | some b =>
          rw [et] at hgo
          refine htest cenv O' A Y₀ X₃ ρ₁ s₃ b _ _ R S₃ et fun s₄ K₄ => ?_
          have S₄ := S₃.keeps K₄
          have L₄ := L₃.step (Step.of_kp (Y := Y₀) (X := X₃) K₄) wrX₀
          have hst₄ : St' (j + 1) s₄.heap := frameSt (sa := s₃) hst₃ fun b _ ob e => K₄.get b ob e
          cases b with
          | false =>
            rw [if_neg (by decide)]
            exact ⟨_, dec_lt hlt, j + 1, X₃, ρ₁, o, ys, nn, out, rfl, hlt, hst₄, L₄, S₄, hbel₃, K₄.get _ _ eo₃, co, dto, rout₃.keeps K₄.get, Nat.le_succ_of_le hol, rest, hgo, happ⟩
          | true =>
            rw [if_pos rfl]
            dsimp only at hgo
            cases ee : fe ρ₁ with
            | none => rw [ee] at hgo; cases hgo
            | some e₁ =>
              rw [ee] at hgo
              dsimp only at hgo
              cases eg : compGo (mkRho cap ρ) t ft fe (ds.drop (j + 1)) with
              | none => rw [eg] at hgo; cases hgo
              | some rest' =>
                rw [eg] at hgo
                cases hgo
                refine helt cenv O' A Y₀ X₃ ρ₁ s₄ e₁ _ _ R S₄ ee fun v₅ s₅ K₅ r₅ => ?_
                have eo₅ := K₅.get _ _ (K₄.get _ _ eo₃)
                have S₅' := S₄.keeps K₅
                have L₅ := L₄.step (Step.of_kp (Y := Y₀) (X := X₃) K₅) wrX₀
                have hst₅ : St' (j + 1) s₅.heap := frameSt (sa := s₄) hst₄ fun b _ ob e => K₅.get b ob e
                have rout₅ := (rout₃.keeps K₄.get).keeps K₅.get
                refine wpAny_list_append_plain (items := ys) ⟨nn, by rw [eo₅, co]⟩ (fun h₆ hl₆ hs₆ => ?_) ?_
                · obtain ⟨n₆, eo₆⟩ := hl₆
                  obtain ⟨o₆, co₆⟩ : ∃ o₆ : Obj, PlainO "list" o₆ (ys.push v₅) n₆ := ⟨_, rfl⟩
                  have dt₆ : o₆.data = .seq (ys.push v₅) n₆ := by rw [co₆]
                  rw [← co₆] at eo₆
                  have kD : ∀ b ob, b ≠ D → s₅.heap.get? b = some ob → h₆.get? b = some ob := fun b ob hb e => hs₆.extBut b ob hb e
                  have S₆ := S₅'.other (wr := [D]) (h' := h₆) (tk := s₅.toks) (fun b h => by rw [List.mem_singleton.mp h]; exact wrY D (.head _)) (fun b ob hb e => kD b ob (fun h => hb (by rw [h]; exact .head _)) e) (fun b h => by rw [List.mem_singleton.mp h]; exact ⟨o₆, eo₆⟩)
                    fun n c e h => cellW n c e (by rw [List.mem_singleton.mp h]; exact .head _)
                  have L₆ := L₅.other (h' := h₆) (tk := s₅.toks) fun b ob hb e => kD b ob (fun h => hb (h ▸ .head _)) e
                  have mvD : ∀ a (ob : Obj), ¬ X₃ a → s₅.heap.get? a = some ob → IsData ob → ¬ X₃ a ∧ h₆.get? a = some ob := fun a ob nx e _ => ⟨nx, kD a ob (fun h => nx (h ▸ L₅.grow D (wrX₀ D (.head _)))) e⟩
                  refine ⟨_, dec_lt hlt, j + 1, X₃, ρ₁, o₆, ys.push v₅, n₆, out ++ [e₁], rfl, hlt, frameSt (sa := s₅) (sb := { s₅ with heap := h₆, toks := s₅.toks }) hst₅ fun b hb ob e => kD b ob (fun h => fpD (h ▸ hb)) e, L₆, S₆, hbel₃, eo₆, co₆, dt₆, ?_, ?_, rest', eg, ?_⟩
                  · rw [Array.toList_push]
                    exact (rout₅.move mvD).snoc (r₅.move mvD)
                  · rw [List.length_append, List.length_singleton]; omega
                  · rw [← happ, List.append_assoc]; rfl
                · have := rout.length
                  rw [Array.length_toList] at this
                  rw [this]
                  exact Nat.le_trans (Nat.le_trans hol hj) (Nat.le_trans hlen lim_line)
    · have hjn : j = ds.length := Nat.le_antisymm hj hge
      subst hjn
      rw [List.drop_length] at hgo
      cases hgo
      rw [List.append_nil] at happ
      subst happ
      refine W.done _ _ _ hst fun h₁ tk₁ hk₁ => ?_
      have eo₁ : h₁.get? D = some o := hk₁ D o Dwr eo
      have nowr : ∀ b ob, s.heap.get? b = some ob → b ∉ D :: wr := fun b ob e h => by
        rcases List.mem_cons.mp h with h | h
        · have e' := K₂.get b ob e
          rw [h, nD] at e'; cases e'
        · rw [T.fresh b h] at e; cases e
      refine hend D C { s' with heap := h₁, toks := tk₁ } o ys nn ⟨?_, fun b ob e => ?_⟩ ?_ ?_ CD eo₁ co dto (rout.move fun a ob nx e _ => ⟨fun h => nx ?_, hk₁ a ob (fun h => nx (L.grow a (wrX₀ a (.tail _ h)))) e⟩) ?_
      · obtain ⟨h, t, e⟩ := K₂.eqs
        obtain ⟨h', t', e'⟩ := L.eqs
        subst e'
        subst e
        exact ⟨_, _, rfl⟩
      · have nb := nowr b ob e
        have e2 := K₂.get b ob e
        refine hk₁ b ob (fun h => nb (.tail _ h)) (L.keep b ob nb (fun z => z.2 ?_) (k25 b ob e2))
        rcases L.fresh b z.1 with q | q
        · exact (oldX b ob e2 q).elim (XY b) fun h => absurd (.tail _ h) nb
        · have q' : h₅.get? b = none := q
          rw [k25 b ob e2] at q'; cases q'
      · cases e : s.heap.get? D with
        | none => rfl
        | some ob => rw [K₂.get D ob e] at nD; cases nD
      · cases e : s.heap.get? C with
        | none => rfl
        | some ob => rw [K₂.get C ob e] at nC; cases nC
      · rcases h with h | h | h
        · exact L.grow a (XinX₀ a h)
        · exact L.grow a (h ▸ wrX₀ D (.head _))
        · exact L.grow a (h ▸ CX₀)
      · obtain ⟨m, V, _⟩ := S'.vars
        obtain ⟨ml, hn, _⟩ := V.ns
        rw [eL] at hn
        exact ⟨ml, hn.at' fun ob e => hk₁ C ob (fun h => Cwr (.tail _ h)) e⟩
  exact codeAny_compStart_list loop (W.self 0 _ _ _ (W.frame _ _ _ T.st fun b _ o e => k25 b o e) loop)
end
end Mine


namespace Mine
section
variable {prog : Program} {w : World} {hb : Heap} {k : Nat} {Γ Γ' : Lay} {sc csc : Scope}

theorem R_listcomp {fi : Rho → Option (List PyData)} {cap : List (Option Nat)} {t : Tgt} {ft : Rho → Option Bool} {fe : Rho → Option PyData} {elt target iter : Expr} {ifs : List Expr} {pos : Pos}
    (hok : compOk Γ Γ' sc csc cap t = true) (hi : SimI prog w hb k Γ sc fi iter) (ht : SimA prog w hb k Γ' (relabelS csc sc) (bindT t) target) (htest : SimTs prog w hb k Γ' (relabelS csc sc) ft ifs) (helt : SimE prog w hb k Γ' (relabelS csc sc) fe elt)
    (hs : ∀ env x, foldedSetIterable iter env x = pure x) : SimE prog w hb k Γ sc (compD fi cap t ft fe) (.ListComp elt [⟨target, iter, ifs, 0⟩] csc pos) := by
  intro env O A Y X ρ s d Q E R S hf q
  unfold compD at hf
  cases el : compL fi cap t ft fe ρ with
  | none => rw [el] at hf; cases hf
  | some l =>
    rw [el] at hf; cases hf
    refine comp_core hok hi ht htest helt hs O R S el fun D C s' o vs n K nD nC CD eo co dt r hN => ?_
    obtain ⟨m, hn⟩ := hN
    refine ⟨m, hn, fun h' hs' => ?_⟩
    have kC : ∀ b ob, b ≠ C → s'.heap.get? b = some ob → h'.get? b = some ob := fun b ob hb e => hs'.extBut b ob hb e
    refine q _ _ ⟨?_, fun b ob e => kC b ob (fun h => by rw [h, nC] at e; cases e) (K.get b ob e)⟩ (.list (fun x => ?_) (kC D o (Ne.symm CD) eo) co dt (r.move fun a ob nx e _ => ⟨fun x => nx (.inl x), kC a ob (fun h => nx (.inr (.inr h))) e⟩))
    · obtain ⟨h, t, rfl⟩ := K.eqs
      exact ⟨_, _, rfl⟩
    · obtain ⟨ob, e⟩ := S.dom D x; rw [nD] at e; cases e

/-- an expression that makes a new list -/
noncomputable def SimF (prog : Program) (w : World) (hb : Heap) (k : Nat) (Γ : Lay) (sc : Scope) (f : Rho → Option (List PyData)) (e : Expr) : Prop :=
  ∀ env, EnvOk hb sc env → ∀ (A : Around) (Y X : Addr → Prop) (ρ : Rho) (s : Shared) (ds : List PyData) (Q : Value → Shared → Prop) (E : Value → Shared → Prop), Room k A → St hb Γ env Y X ρ s → f ρ = some ds →
    (∀ (a : Addr) (s' : Shared) (o : Obj) (vs : Array Value) (n : Nat), Kp s s' → s.heap.get? a = none → s'.heap.get? a = some o → PlainO "list" o vs n → o.data = .seq vs n → Rvs (fun b => X b ∨ b = a) s'.heap vs.toList ds → Q (.ref a) s') →
    wpAny (model prog w) A (eval e env) Q E s

noncomputable def limL (f : Rho → Option (List PyData)) (ρ : Rho) : Option (List PyData) := match f ρ with
  | some l => if l.length ≤ lim then some l else none
  | none => none
theorem F_list {f : Rho → Option (List PyData)} {es : List Expr} {pos : Pos} (h : SimL prog w hb k Γ sc f es) : SimF prog w hb k Γ sc (limL f) (.List es pos) := by
  intro env O A Y X ρ s ds Q E R S hf q
  unfold limL at hf
  cases e : f ρ with
  | none => rw [e] at hf; cases hf
  | some l =>
    rw [e] at hf
    dsimp only at hf
    by_cases hl : l.length ≤ lim
    case neg => rw [if_neg hl] at hf; cases hf
    rw [if_pos hl] at hf
    cases hf
    refine wpAny_List (h env O pos A Y X ρ s _ _ E R S e fun vs s₁ K₁ r₁ => ⟨?_, ?_⟩)
    · rw [r₁.length]; exact Nat.le_trans hl lim_line
    · refine q _ _ _ vs.toArray 0 (K₁.trans (Kp.push s₁ _)) ?_ (Heap.get?_push_size _ rfl) rfl rfl ?_
      · cases e' : s.heap.get? s₁.heap.objs.size with
        | none => rfl
        | some o => exact absurd (Heap.lt_size (K₁.get _ _ e')) (Nat.lt_irrefl _)
      · have r₂ := (r₁.reX (X' := fun b => X b ∨ b = s₁.heap.objs.size) fun a x => x.imp id fun e' => by
          cases e2 : s₁.heap.get? a with
          | none => rfl
          | some o => rw [e'] at e2; exact absurd (Heap.lt_size e2) (Nat.lt_irrefl _)).keeps (h' := s₁.heap.push { cls := .type "list", data := .seq vs.toArray }) fun _ _ e => Heap.get?_push_of_some _ e
        simpa using r₂

theorem F_comp {fi : Rho → Option (List PyData)} {cap : List (Option Nat)} {t : Tgt} {ft : Rho → Option Bool} {fe : Rho → Option PyData} {elt target iter : Expr} {ifs : List Expr} {pos : Pos}
    (hok : compOk Γ Γ' sc csc cap t = true) (hi : SimI prog w hb k Γ sc fi iter) (ht : SimA prog w hb k Γ' (relabelS csc sc) (bindT t) target) (htest : SimTs prog w hb k Γ' (relabelS csc sc) ft ifs) (helt : SimE prog w hb k Γ' (relabelS csc sc) fe elt)
    (hs : ∀ env x, foldedSetIterable iter env x = pure x) : SimF prog w hb k Γ sc (compL fi cap t ft fe) (.ListComp elt [⟨target, iter, ifs, 0⟩] csc pos) := by
  intro env O A Y X ρ s l Q E R S el q
  refine comp_core hok hi ht htest helt hs O R S el fun D C s' o vs n K nD nC CD eo co dt r hN => ?_
  obtain ⟨m, hn⟩ := hN
  refine ⟨m, hn, fun h' hs' => ?_⟩
  have kC : ∀ b ob, b ≠ C → s'.heap.get? b = some ob → h'.get? b = some ob := fun b ob hb e => hs'.extBut b ob hb e
  refine q D _ o vs n ⟨?_, fun b ob e => kC b ob (fun h => by rw [h, nC] at e; cases e) (K.get b ob e)⟩ nD (kC D o (Ne.symm CD) eo) co dt (r.move fun a ob nx e _ => ⟨fun x => nx (x.imp id .inl), kC a ob (fun h => nx (.inr (.inr h))) e⟩)
  obtain ⟨h, t, rfl⟩ := K.eqs
  exact ⟨_, _, rfl⟩

/-! owned names -/
variable {env : Env} {Y X : Addr → Prop} {ρ : Rho} {s : Shared}
theorem Binds.addX {a : Addr} {s' : Shared} {m : Str → Option Value} (B : Binds Γ Y X s.heap m ρ) (K : Kp s s') (hf : s.heap.get? a = none) : Binds Γ Y (fun b => X b ∨ b = a) s'.heap m ρ := by
  have hg : ∀ b, (X b ∨ b = a) → X b ∨ s.heap.get? b = none := fun b x => x.imp id fun (e : b = a) => by rw [e]; exact hf
  refine ⟨fun i x fl d a b c => ?_, fun i x d a b => ?_, B.sep⟩
  · obtain ⟨v, p, r⟩ := B.val i x fl d a b c
    exact ⟨v, p, (r.reX hg).keeps K.get⟩
  · obtain ⟨u, p, o, vs, n, ds, xa, ya, e, c, dt, q, z⟩ := B.own i x d a b
    exact ⟨u, p, o, vs, n, ds, .inl xa, ya, K.get _ _ e, c, dt, q, (z.reX hg).keeps K.get⟩
theorem St.addX {a : Addr} {s' : Shared} (S : St hb Γ env Y X ρ s) (K : Kp s s') (hf : s.heap.get? a = none) (he : ∃ o, s'.heap.get? a = some o) : St hb Γ env Y (fun b => X b ∨ b = a) ρ s' := by
  refine ⟨fun b o e => K.get _ _ (S.base b o e), ?_, fun b x => ?_, fun b x => ?_, fun b y => .inl (S.sub b y), ⟨.inl S.locX.1, S.locX.2⟩, fun n c e => .inl (S.celX n c e), S.celY, S.nd⟩
  · obtain ⟨m, V, B⟩ := S.vars
    exact ⟨m, V.keeps K.get, B.addX K hf⟩
  · rcases x with x | x
    · obtain ⟨o, e⟩ := S.dom b x; exact ⟨o, K.get _ _ e⟩
    · exact x ▸ he
  · rcases x with x | x
    · exact S.old b x
    · cases e : hb.get? b with
      | none => rfl
      | some o => have e1 := S.base b o e; rw [x, hf] at e1; cases e1

theorem storeV {A : Around} {i : Nat} {x : Str} {fl : Fl} {v : Value} {m : Str → Option Value} {Q : Unit → Shared → Prop} {E : Value → Shared → Prop} (O : EnvOk hb sc env) (S : St hb Γ env Y X ρ s) (V : Vars env s.heap m) (hi : Γ[i]? = some (x, fl)) (hw : fl.writes = true)
    (hk : sc.names.lookup x = some .local ∨ sc.names.lookup x = some .cell)
    (q : ∀ (b : Addr) (h' : Heap) (tk : Nat), X b → ¬ Y b → Heap.SameBut b s.heap h' → (∃ o, h'.get? b = some o) → (∀ a d, Own Y X s.heap a d → a ≠ b) → Vars env h' (fun y => if y = x then some v else m y) → Q () { s with heap := h', toks := tk }) :
    wpAny (model prog w) A (storeName env x v) Q E s := by
  have hkf : env.scope.kind = .function := by rw [O.scope]; exact O.kind
  rcases hk with hk | hk
  · have hl : env.kindOf x = some .local := by unfold Env.kindOf; rw [O.scope]; exact hk
    obtain ⟨ml, hn, hml⟩ := V.ns
    refine wpAny_storeName_local hl hn (fun h' hn' hs => ?_) (by rw [hkf]; rfl)
    have hex : ∃ o, h'.get? env.locals = some o := let ⟨o, _, _, e, _⟩ := hn'; ⟨o, e⟩
    refine q _ _ _ S.locX.1 S.locX.2 hs hex (fun a d ow e => ?_) ⟨⟨_, hn', fun y hy => ?_⟩, fun y hy => ?_⟩
    · subst e
      obtain ⟨o, vs, n, ds, _, _, e1, _, dt, _, _⟩ := ow
      obtain ⟨o', es, ep, e2, d2, _⟩ := hn
      rw [e1] at e2; cases e2; rw [dt] at d2; cases d2
    · split
      · rfl
      · exact hml y hy
    · obtain ⟨c, h1, h2⟩ := V.cell y hy
      have hne : y ≠ x := by intro e; subst e; rw [hl] at hy; rcases hy with hy | hy <;> cases hy
      refine ⟨c, h1, ?_⟩
      rw [if_neg hne]
      exact h2.sameBut hs (O.sepL _ _ h1)
  · have hl : env.kindOf x = some .cell := by unfold Env.kindOf; rw [O.scope]; exact hk
    obtain ⟨c, hc, hv⟩ := V.cell x (.inl hl)
    obtain ⟨ml, hn, hml⟩ := V.ns
    refine wpAny_storeName_cell hkf hl hc hv fun h' hv' hs => ?_
    have hX : X c ∧ ¬ Y c := ⟨S.celX _ _ hc, S.celY _ _ _ _ hi hw hc⟩
    have hex : ∃ o, h'.get? c = some o := let ⟨o, e, _⟩ := hv'; ⟨o, e⟩
    refine q _ _ s.toks hX.1 hX.2 hs hex (fun a d ow e => ?_) ⟨⟨ml, hn.sameBut hs (Ne.symm (O.sepL _ _ hc)), fun y hy => ?_⟩, fun y hy => ?_⟩
    · subst e
      obtain ⟨o, vs, n, ds, _, _, e1, _, dt, _, _⟩ := ow
      obtain ⟨o', e2, d2⟩ := hv
      rw [e1] at e2; cases e2; rw [dt] at d2; cases d2
    · have hne : y ≠ x := by intro e; subst e; rw [hl] at hy; cases hy
      rw [if_neg hne]; exact hml y hy
    · obtain ⟨c', h1, h2⟩ := V.cell y hy
      refine ⟨c', h1, ?_⟩
      by_cases e : y = x
      · subst e
        rw [hc] at h1; cases h1
        rw [if_pos rfl]; exact hv'
      · rw [if_neg e]
        exact h2.sameBut hs fun q => e (O.apart _ _ _ (q ▸ h1) hc)

/-- an owned name takes a new list -/
theorem storeO {A : Around} {i : Nat} {x : Str} {a : Addr} {o : Obj} {vs : Array Value} {n : Nat} {ds : List PyData} {s₁ : Shared} {Q : Unit → Shared → Prop} {E : Value → Shared → Prop} (O : EnvOk hb sc env) (S : St hb Γ env Y X ρ s) (K : Kp s s₁) (hi : Γ[i]? = some (x, .own))
    (hk : sc.names.lookup x = some .local ∨ sc.names.lookup x = some .cell) (hf : s.heap.get? a = none) (eo : s₁.heap.get? a = some o) (co : PlainO "list" o vs n) (dt : o.data = .seq vs n) (r : Rvs (fun b => X b ∨ b = a) s₁.heap vs.toList ds)
    (q : ∀ s', Step Y X (fun b => X b ∨ b = a) s s' → St hb Γ env Y (fun b => X b ∨ b = a) (rset ρ i (.list ds)) s' → Q () s') : wpAny (model prog w) A (storeName env x (.ref a)) Q E s₁ := by
  have S₁ := S.addX K hf ⟨o, eo⟩
  obtain ⟨m, V₀, B₀⟩ := S.vars
  have V := V₀.keeps K.get
  have B := B₀.addX K hf
  have aY : ¬ Y a := fun y => by obtain ⟨o', e⟩ := S.dom a (S.sub a y); rw [hf] at e; cases e
  have owna : Own Y (fun b => X b ∨ b = a) s₁.heap a (.list ds) := ⟨o, vs, n, ds, .inr rfl, aY, eo, co, dt, rfl, r⟩
  refine storeV (X := fun b => X b ∨ b = a) O S₁ V hi rfl hk fun b h' tk hX hY hs hex hown V' => ?_
  have st : Step Y X (fun b => X b ∨ b = a) s { s₁ with heap := h', toks := tk } := by
    refine Step.trans (s' := s₁) (X' := fun b => X b ∨ b = a) ⟨K.eqs, fun c ob _ e => K.get c ob e, fun c x => .inl x, fun c x => x.imp id fun (e : c = a) => by rw [e]; exact hf, fun c ob e => ⟨ob, K.get c ob e⟩⟩ (Step.sameBut hs hX hY hex)
  refine q _ st (S₁.put hs hX hex V' ⟨fun j y fl e hj hfl he => ?_, fun j y e hj he => ?_, fun j j' y y' a' e e' hj hj' he he' hm hm' => ?_⟩)
  · rcases rget_rset ρ i j _ he with ⟨rfl, rfl⟩ | ⟨hne, he⟩
    · rw [hi] at hj; cases hj; cases hfl
    · obtain ⟨u, hu, ru⟩ := B.val j y fl e hj hfl he
      exact ⟨u, by rw [if_neg (nodup_ne S.nd hi hj hne)]; exact hu, ru.sameBut hs hX⟩
  · rcases rget_rset ρ i j _ he with ⟨rfl, rfl⟩ | ⟨hne, he⟩
    · rw [hi] at hj; cases hj
      exact ⟨a, if_pos rfl, owna.sameBut hs hX (hown _ _ owna)⟩
    · obtain ⟨u, hu, ru⟩ := B.own j y e hj he
      exact ⟨u, by rw [if_neg (nodup_ne S.nd hi hj hne)]; exact hu, ru.sameBut hs hX (hown _ _ ru)⟩
  · -- apart: an older owned list is not the new one
    have old : ∀ {j : Nat} {y : Str} {e : PyData}, Γ[j]? = some (y, .own) → j ≠ i → rget (rset ρ i (.list ds)) j = some e → (if y = x then some (Value.ref a) else m y) = some (.ref a') → m y = some (.ref a') ∧ rget ρ j = some e := by
      intro j y e hj hne he hm
      rw [if_neg (nodup_ne S.nd hi hj hne)] at hm
      rcases rget_rset ρ i j _ he with ⟨h, _⟩ | ⟨_, h⟩
      · exact absurd h hne
      · exact ⟨hm, h⟩
    have notnew : ∀ {j : Nat} {y : Str} {e : PyData}, Γ[j]? = some (y, .own) → rget ρ j = some e → m y ≠ some (.ref a) := by
      intro j y e hj he hm
      obtain ⟨u, hu, o, _, _, _, _, _, e', _⟩ := B₀.own j y e hj he
      rw [hm] at hu; cases hu
      rw [hf] at e'; cases e'
    by_cases h1 : j = i
    · by_cases h2 : j' = i
      · rw [h1, h2]
      · exfalso
        obtain ⟨q1, q2⟩ := old hj' h2 he' hm'
        subst h1
        rw [hi] at hj; cases hj
        rw [if_pos rfl] at hm; cases hm
        exact notnew hj' q2 q1
    · obtain ⟨q1, q2⟩ := old hj h1 he hm
      by_cases h2 : j' = i
      · exfalso
        subst h2
        rw [hi] at hj'; cases hj'
        rw [if_pos rfl] at hm'; cases hm'
        exact notnew hj q2 q1
      · obtain ⟨q3, q4⟩ := old hj' h2 he' hm'
        exact B.sep j j' y y' a' e e' hj hj' q2 q4 q1 q3
end
end Mine


namespace Mine
section
variable {prog : Program} {w : World} {hb : Heap} {k : Nat} {Γ Γ' : Lay} {sc csc : Scope}

/-- whether a comprehension is stored before its names are let go -/
noncomputable def swapB (sc csc : Scope) (x : Str) (p pos : Pos) : Bool :=
  (if sc.kind.isAnnotationScope then ScopeKind.function else sc.kind) == .function && sc.names.lookup x == some .local && p.line == pos.line && !(csc.names.any fun (n, k) => n == x && (k == .local || k == .cell))
theorem swaps_comp {env : Env} (h : env.scope = sc) (elt : Expr) (gens : List Comprehension) (x : Str) (p pos : Pos) (line : Nat) :
    swapsWith (.ListComp elt gens csc pos) (some (.Name x p)) line env = pure (swapB sc csc x p pos) := by
  subst h; rfl

theorem S_assign_used {fi : Rho → Option (List PyData)} {cap : List (Option Nat)} {t : Tgt} {ft : Rho → Option Bool} {fe : Rho → Option PyData} {elt target iter : Expr} {ifs : List Expr} {i : Nat} {x : Str} {p cp pos : Pos}
    (hx : Γ[i]? = some (x, .loc)) (hk : isStore sc x = true) (hsw : swapB sc csc x p cp = true)
    (hok : compOk Γ Γ' sc csc cap t = true) (hi : SimI prog w hb k Γ sc fi iter) (ht : SimA prog w hb k Γ' (relabelS csc sc) (bindT t) target) (htest : SimTs prog w hb k Γ' (relabelS csc sc) ft ifs) (helt : SimE prog w hb k Γ' (relabelS csc sc) fe elt)
    (hs : ∀ env x, foldedSetIterable iter env x = pure x) : Sim1 prog w hb k Γ sc (asg (compD fi cap t ft fe) (setN i)) (.Assign [.Name x p] (.ListComp elt [⟨target, iter, ifs, 0⟩] csc cp) pos) := by
  intro env O A Y X ρ s o Q E R S hf q
  obtain ⟨d, ρ', h1, h2, rfl⟩ := asg_some hf
  cases h2
  unfold compD at h1
  cases el : compL fi cap t ft fe ρ with
  | none => rw [el] at h1; cases h1
  | some l =>
    rw [el] at h1; cases h1
    rw [exec_Assign_Name_used x p _ pos ((swaps_comp O.scope _ _ x p cp _).trans (by rw [hsw]))]
    refine wpAny_bind (wpAny_standAt (wpAny_bind ?_))
    show wpAny _ _ (comprehension (.ListComp elt [⟨target, iter, ifs, 0⟩] csc cp) csc env (firstIterPos [⟨target, iter, ifs, 0⟩] cp) (newList []) false (eval iter env) (some (assign (.Name x p) env)) >>= fun _ => pure ()) _ _ _
    refine wpAny_bind (comp_core (Q := fun _ s' => wpAny (model prog w) A (pure ()) (fun _ s'' => wpAny (model prog w) A (pure Flow.next) Q E s'') E s') hok hi ht htest helt hs O R S el fun D C s' ob vs n K nD nC CD eo co dt r hN => ?_)
    show wpAny _ _ (assign (.Name x p) env (.ref D)) _ E s'
    obtain ⟨m, hn⟩ := hN
    obtain ⟨oC, _, _, eC, _⟩ := id hn
    have fC : ∀ b ∈ [C], s.heap.get? b = none := fun b h => by rw [List.mem_singleton.mp h]; exact nC
    have aC : ∀ b ∈ [C], ∃ o, s'.heap.get? b = some o := fun b h => by rw [List.mem_singleton.mp h]; exact ⟨oC, eC⟩
    have S₁ := S.guard (wr := [C]) K fC aC
    have hXs : ∀ a, X a → a ∉ [C] := fun a x h => by obtain ⟨o, e⟩ := S.dom a x; rw [fC a h] at e; cases e
    have hYs : ∀ a, Y a → a ∉ [C] := fun a y => hXs a (S.sub a y)
    have hCs : ∀ n c, env.cells.lookup n = some c → c ∉ [C] := fun n c e => hXs c (S.celX n c e)
    refine wpAny_assign_Name (storeS (X := fun a => X a ∨ a ∈ [C]) O S₁ hx (isStore_cases hk) (.list (fun z => ?_) eo co dt (r.reX fun a z => ?_)) fun s'' st S'' => ?_)
    · rcases z with z | z
      · obtain ⟨o, e⟩ := S.dom D z; rw [nD] at e; cases e
      · exact CD (List.mem_singleton.mp z).symm
    · rcases z with z | z
      · exact .inl (.inl z)
      · exact .inl (.inr (.inr (List.mem_singleton.mp z)))
    · refine ⟨m, hn.at' fun o e => st.keep C o (fun z => z.2 (.inr (.head _))) e, fun h' hs' => wpAny_pure (wpAny_pure (q .next _ ⟨rfl, _, ?_, S''.finish hYs hCs fun b o hb e => hs'.extBut b o (fun h => hb (h ▸ .head _)) e⟩))⟩
      exact LStep.out K fC S.dom (((LStep.refl [C] _ _ s').step st fun c h => .inr h).other fun b o hb e => hs'.extBut b o (fun h => hb (h ▸ .head _)) e)

noncomputable def setO (i : Nat) (ds : List PyData) (ρ : Rho) : Rho := rset ρ i (.list ds)
noncomputable def asgO (f : Rho → Option (List PyData)) (i : Nat) (ρ : Rho) : Option Out := match f ρ with
  | some ds => some (.next (setO i ds ρ))
  | none => none
theorem S_assign_own {f : Rho → Option (List PyData)} {i : Nat} {x : Str} {value : Expr} {p pos : Pos} (hi : Γ[i]? = some (x, .own)) (hk : isStore sc x = true) (h : SimF prog w hb k Γ sc f value)
    (hs : ∀ env : Env, env.scope = sc → swapsWith value (some (.Name x p)) pos.line env = pure false) : Sim1 prog w hb k Γ sc (asgO f i) (.Assign [.Name x p] value pos) := by
  intro env O A Y X ρ s o Q E R S hf q
  unfold asgO at hf
  cases e : f ρ with
  | none => rw [e] at hf; cases hf
  | some ds =>
    rw [e] at hf; cases hf
    refine wpAny_Assign_Name (h env O A Y X ρ s ds _ E R S e fun a s₁ o vs n K₁ nf eo co dt r => ?_) (hs env O.scope)
    exact storeO O S K₁ hi (isStore_cases hk) nf eo co dt r fun s' st S' => q .next s' ⟨rfl, _, st, S'⟩

noncomputable def retOnly (f : Rho → Option Out) (ρ : Rho) : Option Out := match f ρ with
  | some (.ret d) => some (.ret d)
  | _ => none
theorem S_freeze {f : Rho → Option Out} {i : Nat} {x : Str} {b : List Stmt} (hi : Γ[i]? = some (x, .own)) (h : SimS prog w hb k (Γ.set i (x, .loc)) sc f b) : SimS prog w hb k Γ sc (retOnly f) b := by
  intro env O A Y X ρ s o Q E R S hf q
  unfold retOnly at hf
  split at hf
  case h_2 => cases hf
  rename_i d ef
  cases hf
  obtain ⟨m, V, B⟩ := S.vars
  have hl : i < Γ.length := (List.getElem?_eq_some_iff.mp hi).1
  have names : ((Γ.set i (x, Fl.loc)).map (·.1)) = Γ.map (·.1) := by
    apply List.ext_getElem?
    intro j
    rw [List.getElem?_map, List.getElem?_map, List.getElem?_set]
    by_cases hj : i = j
    · subst hj
      rw [if_pos rfl, if_pos hl, hi]; rfl
    · rw [if_neg hj]
  have at' : ∀ (j : Nat) (y : Str) (fl : Fl), (Γ.set i (x, Fl.loc))[j]? = some (y, fl) → (j = i ∧ y = x ∧ fl = .loc) ∨ (j ≠ i ∧ Γ[j]? = some (y, fl)) := by
    intro j y fl e
    rw [List.getElem?_set] at e
    by_cases hj : i = j
    · subst hj
      rw [if_pos rfl, if_pos hl] at e
      cases e; exact .inl ⟨rfl, rfl, rfl⟩
    · rw [if_neg hj] at e
      exact .inr ⟨fun h => hj h.symm, e⟩
  cases er : rget ρ i with
  | none =>
    refine h env O A Y X ρ s (.ret d) Q E R ⟨S.base, ⟨m, V, fun j y fl e a b c => ?_, fun j y e a b => ?_, fun j j' y y' a e e' p1 p2 p3 p4 p5 p6 => ?_⟩, S.dom, S.old, S.sub, S.locX, S.celX, fun j n fl c a b e => ?_, by rw [names]; exact S.nd⟩ ef fun fl s' p => q fl s' p
    · rcases at' j y fl a with ⟨rfl, _, _⟩ | ⟨_, a⟩
      · rw [er] at c; cases c
      · exact B.val j y fl e a b c
    · rcases at' j y .own a with ⟨_, _, h⟩ | ⟨_, a⟩
      · cases h
      · exact B.own j y e a b
    · rcases at' j y .own p1 with ⟨_, _, h⟩ | ⟨_, p1⟩
      · cases h
      rcases at' j' y' .own p2 with ⟨_, _, h⟩ | ⟨_, p2⟩
      · cases h
      exact B.sep j j' y y' a e e' p1 p2 p3 p4 p5 p6
    · rcases at' j n fl a with ⟨_, rfl, _⟩ | ⟨_, a⟩
      · exact S.celY i _ .own c hi rfl e
      · exact S.celY j n fl c a b e
  | some d₀ =>
    obtain ⟨u, hu, ou, vs, n, ds, xu, yu, eu, cu, dtu, rfl, ru⟩ := B.own i x d₀ hi er
    have nu : ∀ b, (X b ∧ b ≠ u) → X b ∨ s.heap.get? b = none := fun b z => .inl z.1
    have uL : env.locals ≠ u := by
      intro e
      obtain ⟨ml, ⟨o', es, ep, e2, d2, _⟩, _⟩ := V.ns
      rw [e, eu] at e2; cases e2; rw [dtu] at d2; cases d2
    have uY : ∀ b, Y b → b ≠ u := fun b y e => yu (e ▸ y)
    have S₂ : St hb (Γ.set i (x, .loc)) env Y (fun b => X b ∧ b ≠ u) ρ s := by
      refine ⟨S.base, ⟨m, V, fun j y fl e a b c => ?_, fun j y e a b => ?_, fun j j' y y' a e e' p1 p2 p3 p4 p5 p6 => ?_⟩, fun a x => S.dom a x.1, fun a x => S.old a x.1, fun a y => ⟨S.sub a y, uY a y⟩, ⟨⟨S.locX.1, uL⟩, S.locX.2⟩, fun n c e => ⟨S.celX n c e, fun e' => ?_⟩, fun j n fl c a b e => ?_, by rw [names]; exact S.nd⟩
      · rcases at' j y fl a with ⟨rfl, rfl, _⟩ | ⟨_, a⟩
        · rw [er] at c; cases c
          exact ⟨_, hu, .list (fun z => z.2 rfl) eu cu dtu (ru.reX nu)⟩
        · obtain ⟨v, p, r⟩ := B.val j y fl e a b c
          exact ⟨v, p, r.reX nu⟩
      · rcases at' j y .own a with ⟨_, _, h⟩ | ⟨hne, a⟩
        · cases h
        · obtain ⟨v, p, o, vs', n', ds', xa, ya, e1, c1, d1, q1, z1⟩ := B.own j y e a b
          refine ⟨v, p, o, vs', n', ds', ⟨xa, fun e2 => hne ?_⟩, ya, e1, c1, d1, q1, z1.reX nu⟩
          subst e2
          exact B.sep j i y x v _ _ a hi b er p hu
      · rcases at' j y .own p1 with ⟨_, _, h⟩ | ⟨_, p1⟩
        · cases h
        rcases at' j' y' .own p2 with ⟨_, _, h⟩ | ⟨_, p2⟩
        · cases h
        exact B.sep j j' y y' a e e' p1 p2 p3 p4 p5 p6
      · -- a cell is no list
        subst e'
        have hk : env.kindOf n = some .cell ∨ env.kindOf n = some .free := by unfold Env.kindOf; rw [O.scope]; exact O.cellK n c e
        obtain ⟨c', e1, o', e2, d2⟩ := V.cell n hk
        rw [e] at e1; cases e1
        rw [eu] at e2; cases e2; rw [dtu] at d2; cases d2
      · rcases at' j n fl a with ⟨_, rfl, _⟩ | ⟨_, a⟩
        · exact S.celY i _ .own c hi rfl e
        · exact S.celY j n fl c a b e
    refine h env O A Y _ ρ s (.ret d) Q E R S₂ ef fun fl s' p => q fl s' ?_
    obtain ⟨v, X', e1, st, r⟩ := p
    exact ⟨v, fun b => X' b ∨ b = u, e1, ⟨st.eqs, fun a o n e => st.keep a o (fun z => n ⟨.inl z.1, z.2⟩) e, fun a x => by
      by_cases ha : a = u
      · exact .inr ha
      · exact .inl (st.grow a ⟨x, ha⟩), fun a x => x.elim (fun x => (st.fresh a x).imp And.left id) fun e => .inl (e ▸ xu), st.ex⟩, r⟩
end
end Mine


namespace Mine
/-- the shape of a method's call -/
noncomputable def MethForm (o : Expr) (name : Str) (apos pos : Pos) (args : List Expr) : Prop := ∀ env : Env, ∃ pl : Sem Bool, eval (.Call (.Attribute o name apos) args [] pos) env = (do
      let ov ← eval o env
      standAt apos.atName
      let (f, first) ← holding [ov] (getMethod ov name pl)
      callWith pos f first (backTo pos (starEach args env)) [])

section
variable {prog : Program} {w : World} {hb : Heap} {k : Nat} {Γ Γ' : Lay} {sc csc : Scope}

theorem meth_call {A : Around} {E : Value → Shared → Prop} {s : Shared} {env : Env} {T : String} {id : String} {o : Expr} {name : Str} {apos pos : Pos} {e : Expr} {rest : List Expr} {Q : Value → Shared → Prop} (hm : MethForm o name apos pos (e :: rest)) (pa : PlainAttrs T) (slot : Slot T name id)
    (ty : typeOf (.builtin id) = pure (.type "method_descriptor")) (he : starEach (e :: rest) env = (false, eval e env) :: starEach rest env) (hp : ((backTo pos (starEach rest env)).any (·.1)) = false)
    (h : wpAny (model prog w) A (eval o env) (fun ov s₁ => s₁.TypeIs ov T ∧ (∀ a, ov = .ref a → ∃ ob, s₁.heap.get? a = some ob ∧ ob.dict = none) ∧
      wpAny (model prog w) A (spliced (backTo pos (starEach (e :: rest) env))) (fun vs s₂ => wpAny (model prog w) A (call (.builtin id) (ov :: vs)) Q E s₂) E s₁) E s) :
    wpAny (model prog w) A (eval (.Call (.Attribute o name apos) (e :: rest) [] pos) env) Q E s := by
  obtain ⟨pl, hpl⟩ := hm env
  refine MethodCall_ (pl := pl) ?_ hpl
  refine wpAny_mono h (fun ov s₁ h₁ => ?_) fun _ _ x => x
  obtain ⟨hT, hd, hc⟩ := h₁
  exact getMethod_builtin hT pa slot ty hd (callWith_method1 (first := [ov]) hc he hp)

variable {env : Env} {Y X : Addr → Prop} {ρ : Rho} {s : Shared}
/-- an owned list is changed -/
theorem St.mut {i : Nat} {x : Str} {m : Str → Option Value} {u : Addr} {ds ds' : List PyData} {h' : Heap} {tk : Nat} {vs' : Array Value} {n' : Nat} (S : St hb Γ env Y X ρ s) (V : Vars env s.heap m) (B : Binds Γ Y X s.heap m ρ) (O : EnvOk hb sc env)
    (hi : Γ[i]? = some (x, .own)) (hr : rget ρ i = some (.list ds)) (hu : m x = some (.ref u)) (ow : Own Y X s.heap u (.list ds)) (hs : Heap.SameBut u s.heap h') (hn : h'.get? u = some { cls := .type "list", data := .seq vs' n' }) (r : Rvs X s.heap vs'.toList ds') :
    St hb Γ env Y X (rset ρ i (.list ds')) { s with heap := h', toks := tk } ∧ Step Y X X s { s with heap := h', toks := tk } := by
  obtain ⟨o, vs, n, ds₀, xu, yu, eu, cu, dtu, q, ru⟩ := ow
  have mv : ∀ a (ob : Obj), ¬ X a → s.heap.get? a = some ob → IsData ob → ¬ X a ∧ h'.get? a = some ob := fun a ob nx e _ => ⟨nx, hs.extBut _ _ (fun q => nx (q ▸ xu)) e⟩
  refine ⟨S.put (m' := m) hs xu ⟨_, hn⟩ ⟨?_, fun y hy => ?_⟩ ⟨fun j y fl e hj hfl he => ?_, fun j y e hj he => ?_, fun j j' y y' a e e' hj hj' he he' hm hm' => ?_⟩, Step.sameBut hs xu yu ⟨_, hn⟩⟩
  · obtain ⟨ml, hns, hml⟩ := V.ns
    refine ⟨ml, hns.sameBut hs fun e => ?_, hml⟩
    obtain ⟨o', es, ep, e2, d2, _⟩ := hns
    rw [e, eu] at e2; cases e2; rw [dtu] at d2; cases d2
  · obtain ⟨c, e, o', e2, d2⟩ := V.cell y hy
    refine ⟨c, e, o', hs.extBut _ _ (fun q => ?_) e2, d2⟩
    rw [q, eu] at e2; cases e2; rw [dtu] at d2; cases d2
  · rcases rget_rset ρ i j _ he with ⟨rfl, rfl⟩ | ⟨hne, he⟩
    · rw [hi] at hj; cases hj; cases hfl
    · obtain ⟨v, p, rv⟩ := B.val j y fl e hj hfl he
      exact ⟨v, p, rv.move mv⟩
  · rcases rget_rset ρ i j _ he with ⟨rfl, rfl⟩ | ⟨hne, he⟩
    · rw [hi] at hj; cases hj
      exact ⟨u, hu, _, vs', n', ds', xu, yu, hn, rfl, rfl, rfl, r.move mv⟩
    · obtain ⟨v, p, ob, vs₂, n₂, ds₂, xa, ya, e1, c1, d1, q1, z1⟩ := B.own j y e hj he
      refine ⟨v, p, ob, vs₂, n₂, ds₂, xa, ya, hs.extBut _ _ (fun e2 => hne ?_) e1, c1, d1, q1, z1.move mv⟩
      subst e2
      exact B.sep j i y x v _ _ hj hi he hr p hu
  · have f : ∀ {j : Nat} {e : PyData}, rget (rset ρ i (.list ds')) j = some e → ∃ e', rget ρ j = some e' := by
      intro j e he
      rcases rget_rset ρ i j _ he with ⟨rfl, _⟩ | ⟨_, he⟩
      · exact ⟨_, hr⟩
      · exact ⟨_, he⟩
    obtain ⟨_, h1⟩ := f he
    obtain ⟨_, h2⟩ := f he'
    exact B.sep j j' y y' a _ _ hj hj' h1 h2 hm hm'

/-! x.append(e) -/
noncomputable def appD (i : Nat) (f : Rho → Option PyData) (ρ : Rho) : Option Out := match rget ρ i, f ρ with
  | some (.list l), some d => if l.length ≤ lim then some (.next (rset ρ i (.list (l ++ [d])))) else none
  | _, _ => none
theorem S_append {f : Rho → Option PyData} {i : Nat} {x : Str} {e : Expr} {p apos cp pos : Pos} (hi : Γ[i]? = some (x, .own)) (hk : isVar sc x = true) (hd : (x == ("__debug__" : Str)) = false) (hc : (x == ("__classdict__" : Str)) = false)
    (hf : SimE prog w hb k Γ sc f e) (hm : MethForm (.Name x p) "append" apos cp [e]) (he : ∀ env, starEach [e] env = (false, eval e env) :: starEach [] env)
    (hin : ∀ env : Env, env.scope = sc → interactive env = false) : Sim1 prog w hb k Γ sc (appD i f) (.Expr (.Call (.Attribute (.Name x p) "append" apos) [e] [] cp) pos) := by
  intro env O A Y X ρ s o Q E R S h q
  unfold appD at h
  split at h
  case h_2 => cases h
  rename_i l d hr hfd
  by_cases hlen : l.length ≤ lim
  case neg => rw [if_neg hlen] at h; cases h
  rw [if_pos hlen] at h
  cases h
  obtain ⟨m, V, B⟩ := S.vars
  obtain ⟨u, hu, ow⟩ := B.own i x _ hi hr
  obtain ⟨ob, vs, n, ds, xu, yu, eu, cu, dtu, qd, ru⟩ := id ow
  cases qd
  refine wpAny_Expr ?_ (hin env O.scope) rfl
  refine meth_call (T := "list") (id := "list.append") hm F.plainAttrs_list F.slot_list_append F.type_list_append (he env) rfl ?_
  refine load_var O V hk hu ⟨⟨ob, eu, by rw [cu]⟩, fun a ha => by cases ha; exact ⟨ob, eu, cu.dict⟩, ?_⟩ hd hc
  refine wpAny_items_cons (hf env O A Y X ρ s d _ E R S hfd fun v s₁ K₁ r₁ => wpAny_items_nil ?_) (he env)
  refine wpAny_list_append_plain (items := vs) ⟨n, by rw [K₁.get _ _ eu, cu]⟩ (fun h' hl' hs' => ?_) ?_
  · obtain ⟨n', hn'⟩ := hl'
    have S₁ := S.keeps K₁
    have z := St.mut (tk := s₁.toks) (i := i) (x := x) (ds := l) S₁ (V.keeps K₁.get) (B.keeps K₁.get) O hi hr hu (ow.keeps K₁.get) hs' hn' (ds' := l ++ [d]) (by rw [Array.toList_push]; exact (ru.keeps K₁.get).snoc r₁)
    exact q .next _ ⟨rfl, X, (Step.of_kp K₁).trans z.2, z.1⟩
  · have := ru.length
    rw [Array.length_toList] at this
    rw [this]; exact Nat.le_trans hlen lim_line

/-! x.extend(e) -/
noncomputable def extD (i : Nat) (f : Rho → Option PyData) (ρ : Rho) : Option Out := match rget ρ i, f ρ with
  | some (.list l), some (.list l') => if l.length + l'.length ≤ lim then some (.next (rset ρ i (.list (l ++ l')))) else none
  | _, _ => none
theorem S_extend {f : Rho → Option PyData} {i : Nat} {x : Str} {e : Expr} {p apos cp pos : Pos} (hi : Γ[i]? = some (x, .own)) (hk : isVar sc x = true) (hd : (x == ("__debug__" : Str)) = false) (hc : (x == ("__classdict__" : Str)) = false)
    (hf : SimE prog w hb k Γ sc f e) (hm : MethForm (.Name x p) "extend" apos cp [e]) (he : ∀ env, starEach [e] env = (false, eval e env) :: starEach [] env)
    (hin : ∀ env : Env, env.scope = sc → interactive env = false) : Sim1 prog w hb k Γ sc (extD i f) (.Expr (.Call (.Attribute (.Name x p) "extend" apos) [e] [] cp) pos) := by
  intro env O A Y X ρ s o Q E R S h q
  unfold extD at h
  split at h
  case h_2 => cases h
  rename_i l l' hr hfd
  by_cases hlen : l.length + l'.length ≤ lim
  case neg => rw [if_neg hlen] at h; cases h
  rw [if_pos hlen] at h
  cases h
  obtain ⟨m, V, B⟩ := S.vars
  obtain ⟨u, hu, ow⟩ := B.own i x _ hi hr
  obtain ⟨ob, vs, n, ds, xu, yu, eu, cu, dtu, qd, ru⟩ := id ow
  cases qd
  refine wpAny_Expr ?_ (hin env O.scope) rfl
  refine meth_call (T := "list") (id := "list.extend") hm F.plainAttrs_list F.slot_list_extend F.type_list_extend (he env) rfl ?_
  refine load_var O V hk hu ⟨⟨ob, eu, by rw [cu]⟩, fun a ha => by cases ha; exact ⟨ob, eu, cu.dict⟩, ?_⟩ hd hc
  refine wpAny_items_cons (hf env O A Y X ρ s _ _ E R S hfd fun v s₁ K₁ r₁ => wpAny_items_nil ?_) (he env)
  obtain ⟨b, ob', vs', n', rfl, xb, eb, cb, dtb, rb⟩ := r₁.list_inv
  have e1 : s₁.heap.get? u = some { cls := .type "list", data := .seq vs n } := by rw [K₁.get _ _ eu, cu]
  have e2 : s₁.heap.get? b = some { cls := .type "list", data := .seq vs' n' } := by rw [eb, cb]
  have l1 := ru.length
  have l2 := rb.length
  rw [Array.length_toList] at l1 l2
  have hsz : vs.size + vs'.size ≤ lim := by rw [l1, l2]; exact hlen
  have hsz' : vs.size + vs'.size ≤ sizeLine := Nat.le_trans hsz lim_line
  refine call_meets F.slot_list_extend ⟨_, e1, rfl⟩ F.entry_list_extend (F.args_list_extend_2 _ _) (AutoSeq1.list_extend_list_list_0 u vs n b vs' n' ?_ ?_ ?_) ⟨e1, e2, ?_⟩
  · intro h
    rw [Bool.and_eq_true] at h
    have h2 := h.2
    unfold Builtin.List.listTooLong at h2
    have : (lim : Int) < 2 ^ 60 := by decide
    simp at h2
    omega
  · omega
  · omega
  · have hs' : Heap.SameBut u s₁.heap (s₁.heap.update u (Obj.mapSeq fun x => x ++ vs')) := Heap.SameBut.update ..
    obtain ⟨n₂, hn₂⟩ : ∃ n₂, (s₁.heap.update u (Obj.mapSeq fun x => x ++ vs')).get? u = some { cls := .type "list", data := .seq (vs ++ vs') n₂ } := ⟨_, Heap.get?_update_self _ e1 rfl⟩
    have S₁ := S.keeps K₁
    have z := St.mut (tk := s₁.toks) (i := i) (x := x) (ds := l) S₁ (V.keeps K₁.get) (B.keeps K₁.get) O hi hr hu (ow.keeps K₁.get) hs' hn₂ (ds' := l ++ l') (by rw [Array.toList_append]; exact (ru.keeps K₁.get).append rb)
    exact q .next _ ⟨rfl, X, (Step.of_kp K₁).trans z.2, z.1⟩

/-! x[j] = e -/
theorem setItem_plain {A : Around} {E : Value → Shared → Prop} {s : Shared} {l : Addr} {items : Array Value} {n : Nat} {k : Int} {t : Tok} {v : Value} {Q : Unit → Shared → Prop} (ho : s.heap.get? l = some { cls := .type "list", data := .seq items n }) (h0 : 0 ≤ k) (hj : k < items.size) (hfit : k < 2 ^ 63)
    (q : ∀ h' n', h'.get? l = some { cls := .type "list", data := .seq (items.setIfInBounds k.toNat v) n' } → Heap.SameBut l s.heap h' → Q () { s with heap := h' }) : wpAny (model prog w) A (setItem (.ref l) (.int k t) v) Q E s := by
  have hl : s.heap.IsList l items := ⟨_, ho, rfl, n, rfl⟩
  unfold setItem
  try with_reducible refine wpAny_holding ?_
  first | refine wpAny_bind (wpAny_pure ?_) | skip
  refine wpAny_bind (wpAny_sequenceKey hl.typeIs (by decide) ?_)
  refine wpAny_bind (wpAny_callSpecial?_slot (name := Str.ofString "__setitem__") hl.typeIs PySem.slot_list_setitem
    (wpAny_call_entry PySem.slot_list_setitem hl.typeIs PySem.entry_list_setitem ?_ (PySem.args_list_setitem _ _ _)))
  show wpAny _ _ (Builtin.List.listSubscript? (.int k t) >>= _) _ _ s
  refine wpAny_bind (wpAny_listSubscript_int (fitsIndex_of h0 hfit) ?_)
  clear hfit
  obtain ⟨j, rfl⟩ := Int.eq_ofNat_of_zero_le h0
  have hj' : j < items.size := by omega
  have hnew : (s.heap.update l (Obj.mapSeq (·.setIfInBounds j v))).get? l = some (Obj.mapSeq (·.setIfInBounds j v) { cls := .type "list", data := .seq items n }) := Heap.get?_update_self _ ho rfl
  have fin := q (s.heap.update l (Obj.mapSeq (·.setIfInBounds j v))) _ hnew (Heap.SameBut.update ..)
  show wpAny _ _ ((seqItemAt l j >>= fun r => pure (r.map (j, ·))) >>= _) _ _ s
  refine wpAny_bind (wpAny_bind (wpAny_seqItemAt ho rfl (wpAny_pure ?_)))
  rw [Array.getElem?_eq_getElem hj']
  show wpAny _ _ (setSeqItemAt l j v >>= _) _ _ s
  refine wpAny_bind (wpAny_setSeqItemAt ho rfl ?_)
  first
    | exact wpAny_bind (wpAny_pure (wpAny_pure ⟨.none, rfl, wpAny_pure fin⟩))
    | exact wpAny_pure ⟨.none, rfl, wpAny_pure fin⟩
noncomputable def putAt (d : PyData) : List PyData → Nat → List PyData
  | [], _ => []
  | _ :: r, 0 => d :: r
  | x :: r, n + 1 => x :: putAt d r n
noncomputable def setiD (i : Nat) (fj f : Rho → Option PyData) (ρ : Rho) : Option Out := match rget ρ i, f ρ, fj ρ with
  | some (.list l), some d, some (.int j) => if 0 ≤ j ∧ j < (l.length : Int) ∧ l.length ≤ lim then some (.next (rset ρ i (.list (putAt d l j.toNat)))) else none
  | _, _, _ => none
theorem Rvs.putAt {h : Heap} {d : PyData} {v : Value} (r₁ : Rv X h v d) : ∀ {vs : List Value} {ds : List PyData} {j : Nat}, Rvs X h vs ds → Rvs X h (vs.set j v) (putAt d ds j)
  | [], _, _, r => by cases r; exact Rvs.nil
  | _ :: vs, _, 0, r => by cases r with | cons a b => exact .cons r₁ b
  | _ :: vs, _, j + 1, r => by cases r with | cons a b => exact .cons a (Rvs.putAt r₁ b)
theorem S_setitem {f fj : Rho → Option PyData} {i : Nat} {x : Str} {e j : Expr} {p sp pos : Pos} (hi : Γ[i]? = some (x, .own)) (hk : isVar sc x = true) (hd : (x == ("__debug__" : Str)) = false) (hc : (x == ("__classdict__" : Str)) = false)
    (hf : SimE prog w hb k Γ sc f e) (hj : SimE prog w hb k Γ sc fj j) (hs : ∀ env : Env, swapsWith e (some (.Subscript (.Name x p) j sp)) pos.line env = pure false) :
    Sim1 prog w hb k Γ sc (setiD i fj f) (.Assign [.Subscript (.Name x p) j sp] e pos) := by
  intro env O A Y X ρ s o Q E R S h q
  unfold setiD at h
  split at h
  case h_2 => cases h
  rename_i l d jj hr hfd hfj
  by_cases hlen : 0 ≤ jj ∧ jj < (l.length : Int) ∧ l.length ≤ lim
  case neg => rw [if_neg hlen] at h; cases h
  rw [if_pos hlen] at h
  cases h
  obtain ⟨m, V, B⟩ := S.vars
  obtain ⟨u, hu, ow⟩ := B.own i x _ hi hr
  obtain ⟨ob, vs, n, ds, xu, yu, eu, cu, dtu, qd, ru⟩ := id ow
  cases qd
  refine wpAny_Assign_Subscript ?_ (hs env)
  refine hf env O A Y X ρ s d _ E R S hfd fun v s₁ K₁ r₁ => ?_
  refine load_var O (V.keeps K₁.get) hk hu ?_ hd hc
  refine hj env O A Y X ρ s₁ _ _ E R (S.keeps K₁) hfj fun jv s₂ K₂ rj => ?_
  cases rj with
  | int _ t =>
    have e1 : s₂.heap.get? u = some { cls := .type "list", data := .seq vs n } := by rw [K₂.get _ _ (K₁.get _ _ eu), cu]
    have l1 := ru.length
    rw [Array.length_toList] at l1
    have K := K₁.trans K₂
    have hl : lim = 100000 := rfl
    refine setItem_plain e1 hlen.1 (by omega) (by omega) fun h' n' hn' hs' => ?_
    have S₂ := S.keeps K
    have z := St.mut (tk := s₂.toks) (i := i) (x := x) (ds := l) S₂ (V.keeps K.get) (B.keeps K.get) O hi hr hu (ow.keeps K.get) hs' hn' (ds' := putAt d l jj.toNat) (by
      have q1 := Rvs.putAt (r₁.keeps K₂.get) (j := jj.toNat) (ru.keeps K.get)
      rw [Array.toList_setIfInBounds]
      exact q1)
    exact q .next _ ⟨rfl, X, (Step.of_kp K).trans z.2, z.1⟩

/-! x += e -/
noncomputable def augD (i : Nat) (f : Rho → Option PyData) (ρ : Rho) : Option Out := match rget ρ i, f ρ with
  | some (.str x), some (.str y) => if x.length + y.length ≤ lim then some (.next (rset ρ i (.str (x ++ y)))) else none
  | _, _ => none
theorem S_augstr {f : Rho → Option PyData} {i : Nat} {x : Str} {e : Expr} {p pos : Pos} (hi : Γ[i]? = some (x, .loc)) (hl : sc.names.lookup x = some .local) (hf : SimE prog w hb k Γ sc f e) : Sim1 prog w hb k Γ sc (augD i f) (.AugAssign (.Name x p) .Add e pos) := by
  intro env O A Y X ρ s o Q E R S h q
  unfold augD at h
  split at h
  case h_2 => cases h
  rename_i a b hr hfd
  by_cases hlen : a.length + b.length ≤ lim
  case neg => rw [if_neg hlen] at h; cases h
  rw [if_pos hlen] at h
  cases h
  obtain ⟨m, V, B⟩ := S.vars
  obtain ⟨v, hm, r⟩ := B.val i x _ _ hi rfl hr
  have hkf : env.scope.kind = .function := by rw [O.scope]; exact O.kind
  have hkl : env.kindOf x = some .local := by unfold Env.kindOf; rw [O.scope]; exact hl
  obtain ⟨ml, hn, hml⟩ := V.ns
  refine wpAny_AugAssign_Name (wpAny_loadName_local hkf hkl hn ((hml x hkl).trans hm) ?_)
  refine hf env O A Y X ρ s _ _ E R S hfd fun v' s₁ K₁ r₁ => ?_
  cases r with
  | str _ t =>
    cases r₁ with
    | str _ t' =>
      refine SB.iadd (fun t'' tk => ?_) (Nat.le_trans hlen lim_line)
      have K₂ := K₁.trans (Kp.tok s₁ tk)
      exact storeS O (S.keeps K₂) hi (.inl hl) (.str _ t'') fun s' st S' => q .next s' ⟨rfl, X, (Step.of_kp K₂).trans st, S'⟩
end
end Mine


namespace Mine
section
variable {prog : Program} {w : World} {hb : Heap} {k : Nat} {Γ Γ' : Lay} {sc csc : Scope}

/-! iterables -/
noncomputable def seqL (f : Rho → Option PyData) (ρ : Rho) : Option (List PyData) := match f ρ with
  | some (.list l) => some l
  | some (.tuple l) => some l
  | _ => none
theorem none_size {h : Heap} : h.get? h.objs.size = none := by
  cases e : h.get? h.objs.size with
  | none => rfl
  | some o => exact absurd (Heap.lt_size e) (Nat.lt_irrefl _)
theorem none_back {s s' : Shared} (K : Kp s s') {a : Addr} (h : s'.heap.get? a = none) : s.heap.get? a = none := by
  cases e : s.heap.get? a with
  | none => rfl
  | some o => rw [K.get _ _ e] at h; cases h

theorem it_list {X : Addr → Prop} {s s₁ : Shared} {a : Addr} {o : Obj} {vs : Array Value} {n : Nat} {ds : List PyData} (K : Kp s s₁) (xa : ¬ X a) (e : s₁.heap.get? a = some o) (c : PlainO "list" o vs n) (r : Rvs X s₁.heap vs.toList ds) :
    ItOk prog w X s.heap (s₁.heap.push { cls := .type "list_iterator", data := .fields #[.ref a, .int 0 0] }) (.ref s₁.heap.objs.size) ds := by
  have hne : a ≠ s₁.heap.objs.size := fun h => by rw [h, none_size] at e; cases e
  have hlen : vs.size = ds.length := by have := r.length; rwa [Array.length_toList] at this
  have hl : s₁.heap.IsList a vs := ⟨o, e, c.cls, n, by rw [c]⟩
  have kp : ∀ b ob, s₁.heap.get? b = some ob → (s₁.heap.push { cls := .type "list_iterator", data := .fields #[.ref a, .int 0 0] }).get? b = some ob := fun b ob e => Heap.get?_push_of_some _ e
  refine ⟨s₁.heap.objs.size, [s₁.heap.objs.size, a], [s₁.heap.objs.size], fun i v => vs[i]? = some v, fun i h => h.IsListIter s₁.heap.objs.size a i ∧ h.IsList a vs, rfl, ?_⟩
  refine ⟨fun A hA => by rw [← hlen]; exact Walks.list hA _ a hne vs, ⟨⟨_, Heap.get?_push_size _ rfl, rfl, rfl⟩, hl.at fun o e => kp _ _ e⟩, fun b hb => ?_, fun i h st b hb => ?_, fun b hb hw => ?_, fun i v d hp hd => ?_, fun i h st => ?_⟩
  · rw [List.mem_singleton.mp hb]; exact none_back K none_size
  · rcases List.mem_cons.mp hb with hb | hb
    · obtain ⟨o, e, _⟩ := st.1; exact ⟨o, hb ▸ e⟩
    · rw [List.mem_singleton.mp hb]; obtain ⟨o, e, _⟩ := st.2; exact ⟨o, e⟩
  · rcases List.mem_cons.mp hb with hb | hb
    · exact absurd (by rw [hb]; exact .head _) hw
    · rw [List.mem_singleton.mp hb]; exact xa
  · obtain ⟨v', e', r'⟩ := r.get hd
    have : v' = v := by
      have q : vs.toList[i]? = some v := by simpa using hp
      rw [e'] at q; exact Option.some.inj q
    subst this
    exact (r'.reX (X' := fun a => X a ∨ a ∈ [s₁.heap.objs.size]) fun b hb => hb.imp id fun hb => by rw [List.mem_singleton.mp hb]; exact none_size).keeps kp
  · obtain ⟨o, e, co, dt⟩ := st.1
    refine ⟨o, e, fun n' vs' hn hd => ?_⟩
    rw [co] at hn
    cases hn
    decide
theorem it_tuple {X : Addr → Prop} {s s₁ : Shared} {a : Addr} {o : Obj} {vs : Array Value} {n : Nat} {ds : List PyData} (K : Kp s s₁) (xa : ¬ X a) (e : s₁.heap.get? a = some o) (c : PlainO "tuple" o vs n) (r : Rvs X s₁.heap vs.toList ds) :
    ItOk prog w X s.heap (s₁.heap.push { cls := .type "tuple_iterator", data := .fields #[.ref a, .int 0 0] }) (.ref s₁.heap.objs.size) ds := by
  have hne : a ≠ s₁.heap.objs.size := fun h => by rw [h, none_size] at e; cases e
  have hlen : vs.size = ds.length := by have := r.length; rwa [Array.length_toList] at this
  have hl : s₁.heap.IsTuple a vs := ⟨o, e, c.cls, n, by rw [c]⟩
  have kp : ∀ b ob, s₁.heap.get? b = some ob → (s₁.heap.push { cls := .type "tuple_iterator", data := .fields #[.ref a, .int 0 0] }).get? b = some ob := fun b ob e => Heap.get?_push_of_some _ e
  refine ⟨s₁.heap.objs.size, [s₁.heap.objs.size, a], [s₁.heap.objs.size], fun i v => vs[i]? = some v, fun i h => h.IsTupleIter s₁.heap.objs.size a i ∧ h.IsTuple a vs, rfl, ?_⟩
  refine ⟨fun A hA => by rw [← hlen]; exact Walks.tuple hA _ a hne vs, ⟨⟨_, Heap.get?_push_size _ rfl, rfl, rfl⟩, hl.at fun o e => kp _ _ e⟩, fun b hb => ?_, fun i h st b hb => ?_, fun b hb hw => ?_, fun i v d hp hd => ?_, fun i h st => ?_⟩
  · rw [List.mem_singleton.mp hb]; exact none_back K none_size
  · rcases List.mem_cons.mp hb with hb | hb
    · obtain ⟨o, e, _⟩ := st.1; exact ⟨o, hb ▸ e⟩
    · rw [List.mem_singleton.mp hb]; obtain ⟨o, e, _⟩ := st.2; exact ⟨o, e⟩
  · rcases List.mem_cons.mp hb with hb | hb
    · exact absurd (by rw [hb]; exact .head _) hw
    · rw [List.mem_singleton.mp hb]; exact xa
  · obtain ⟨v', e', r'⟩ := r.get hd
    have : v' = v := by
      have q : vs.toList[i]? = some v := by simpa using hp
      rw [e'] at q; exact Option.some.inj q
    subst this
    exact (r'.reX (X' := fun a => X a ∨ a ∈ [s₁.heap.objs.size]) fun b hb => hb.imp id fun hb => by rw [List.mem_singleton.mp hb]; exact none_size).keeps kp
  · obtain ⟨o, e, co, dt⟩ := st.1
    refine ⟨o, e, fun n' vs' hn hd => ?_⟩
    rw [co] at hn
    cases hn
    decide
theorem I_seq {f : Rho → Option PyData} {e : Expr} (h : SimE prog w hb k Γ sc f e) : SimI prog w hb k Γ sc (seqL f) e := by
  intro env O A Y X ρ s ds Q E R S hf q
  unfold seqL at hf
  split at hf
  · rename_i l el
    cases hf
    refine h env O A Y X ρ s _ _ E R S el fun v s₁ K₁ r₁ => ?_
    obtain ⟨a, o, vs, n, rfl, xa, e, c, dt, r⟩ := r₁.list_inv
    exact wpAny_pyIter_list ⟨o, e, c.cls, n, dt⟩ (q _ _ (K₁.trans (Kp.push s₁ _)) (it_list K₁ xa e c r))
  · rename_i l el
    cases hf
    refine h env O A Y X ρ s _ _ E R S el fun v s₁ K₁ r₁ => ?_
    cases r₁ with
    | tuple xa e c dt r => exact wpAny_pyIter_tuple ⟨_, e, c.cls, _, dt⟩ (q _ _ (K₁.trans (Kp.push s₁ _)) (it_tuple K₁ xa e c r))
  · cases hf

/-! unpacking -/
noncomputable def SimAs (prog : Program) (w : World) (hb : Heap) (k : Nat) (Γ : Lay) (sc : Scope) (is : List Nat) (ts : List Expr) : Prop :=
  ∀ env, EnvOk hb sc env → ∀ (A : Around) (Y X : Addr → Prop) (ρ ρ' : Rho) (s : Shared) (vs : List Value) (ds : List PyData) (Q : Unit → Shared → Prop) (E : Value → Shared → Prop), Room k A → St hb Γ env Y X ρ s → Rvs X s.heap vs ds → setAll is ds ρ = some ρ' →
    (∀ s' X', Step Y X X' s s' → St hb Γ env Y X' ρ' s' → Q () s') → wpAny (model prog w) A (assignInOrder ((assignEach ts env).map (·.2)) vs) Q E s
theorem As_nil : SimAs prog w hb k Γ sc [] [] := by
  intro env O A Y X ρ ρ' s vs ds Q E R S r hf q
  cases ds with
  | nil => cases hf; cases r; exact wpAny_pure (q s X (Step.refl _ _ _) S)
  | cons => cases hf
theorem As_cons {i : Nat} {x : Str} {p : Pos} {is : List Nat} {ts : List Expr} (hi : Γ[i]? = some (x, .loc)) (hk : isStore sc x = true) (h : SimAs prog w hb k Γ sc is ts) : SimAs prog w hb k Γ sc (i :: is) (.Name x p :: ts) := by
  intro env O A Y X ρ ρ' s vs ds Q E R S r hf q
  cases ds with
  | nil => cases hf
  | cons d ds =>
    cases r with
    | cons a b =>
      rename_i v vs
      show wpAny _ _ (do holding vs (assign (.Name x p) env v); assignInOrder ((assignEach ts env).map (·.2)) vs) _ _ s
      refine wpAny_bind (wpAny_holding (wpAny_assign_Name (storeS O S hi (isStore_cases hk) a fun s₁ st S₁ => ?_)))
      have b' : Rvs X s₁.heap vs ds := b.move fun c o nx e _ => ⟨nx, st.keep c o (fun z => nx z.1) e⟩
      exact h env O A Y X (rset ρ i d) ρ' s₁ vs ds Q E R S₁ b' hf fun s' X' st' S' => q s' X' (st.trans st') S'
theorem As_length {is : List Nat} {ds : List PyData} {ρ ρ' : Rho} (h : setAll is ds ρ = some ρ') : is.length = ds.length := by
  induction is generalizing ds ρ with
  | nil => cases ds with | nil => rfl | cons => cases h
  | cons i is ih => cases ds with | nil => cases h | cons d ds => exact congrArg (· + 1) (ih h)
theorem A_tup {is : List Nat} {ts : List Expr} {n : Nat} {pos : Pos} (h : SimAs prog w hb k Γ sc is ts) (hl : ∀ env, (assignEach ts env).length = is.length) (hst : ∀ env, (assignEach ts env).findIdx? (·.1) = none) : SimA prog w hb k Γ sc (bindT (.tup is)) (.Tuple ts n pos) := by
  intro env O A Y X ρ ρ' s v d Q E R S r hf q
  have go : ∀ (ds : List PyData) (vs : Array Value) (h' : Heap), Rvs X s.heap vs.toList ds → setAll is ds ρ = some ρ' → Heap.ExtBut s.heap.objs.size s.heap h' →
      wpAny (model prog w) A (assignInOrder ((assignEach ts env).map (·.2)) vs.toList) Q E { s with heap := h' } := by
    intro ds vs h' r hs hx
    have K : Kp s { s with heap := h' } := ⟨⟨_, _, rfl⟩, fun b o e => hx b o (fun hb => by rw [hb, none_size] at e; cases e) e⟩
    exact h env O A Y X ρ ρ' _ _ ds Q E R (S.keeps K) (r.keeps K.get) hs fun s' X' st S' => q s' X' ((Step.of_kp K).trans st) S'
  cases d with
  | list ds =>
    have hs : setAll is ds ρ = some ρ' := hf
    obtain ⟨a, o, vs, m, rfl, xa, e, c, dt, r⟩ := r.list_inv
    have hlen : (assignEach ts env).length = vs.size := by rw [hl env, As_length hs]; have := r.length; rw [Array.length_toList] at this; exact this.symm
    rw [arm_assign_Tuple]
    refine wpAny_bind (wpAny_standAt ?_)
    unfold unpack
    rw [hlen, hst env]
    exact wpAny_bind (wpAny_holding (kun_itemsOf R.1 ⟨o, e, c.cls, m, dt⟩ fun h' hx => go ds vs h' r hs hx))
  | tuple ds =>
    have hs : setAll is ds ρ = some ρ' := hf
    cases r with
    | tuple xa e c dt r =>
      rename_i a o vs m
      have hlen : (assignEach ts env).length = vs.size := by rw [hl env, As_length hs]; have := r.length; rw [Array.length_toList] at this; exact this.symm
      exact wpAny_assign_Tuple R.1 ⟨o, e, c.cls, m, dt⟩ hlen (hst env) fun h' hx => go ds vs h' r hs hx
  | _ => cases hf
theorem A_one {i : Nat} {x : Str} {pos : Pos} (hi : Γ[i]? = some (x, .loc)) (hk : isStore sc x = true) : SimA prog w hb k Γ sc (bindT (.one i)) (.Name x pos) := A_name hi hk
end
end Mine


namespace Mine
structure GlobOk (mg mb : Str → Option Value) (hb : Heap) : Prop where
  g : hb.Ns mainGlobals mg
  b : hb.Ns builtinsNs mb
  lim : hb.NoLimit

noncomputable def isGlob (sc : Scope) (x : Str) : Bool := sc.names.lookup x == some .globalImplicit && !(x == ("__debug__" : Str))

section
variable {prog : Program} {w : World} {hb : Heap} {k : Nat} {Γ Γ' : Lay} {sc csc : Scope} {mg mb : Str → Option Value}

theorem load_glob {env : Env} {A : Around} {s : Shared} {x : Str} {pos : Pos} {v : Value} {Q E : Value → Shared → Prop} (G : GlobOk mg mb hb) (O : EnvOk hb sc env) (hs : ∀ a o, hb.get? a = some o → s.heap.get? a = some o) (hk : isGlob sc x = true) (hm : mg x = some v) (h : Q v s) :
    wpAny (model prog w) A (eval (.Name x pos) env) Q E s := by
  unfold isGlob at hk
  rw [Bool.and_eq_true] at hk
  refine Name_function_global (by rw [O.scope]; exact O.kind) (by unfold Env.kindOf; rw [O.scope]; simpa using hk.1) ?_ (by simpa using hk.2)
  exact loadGlobal_global (by rw [O.globals]; exact G.g.keeps hs) hm h
theorem load_blt {env : Env} {A : Around} {s : Shared} {x : Str} {pos : Pos} {v : Value} {Q E : Value → Shared → Prop} (G : GlobOk mg mb hb) (O : EnvOk hb sc env) (hs : ∀ a o, hb.get? a = some o → s.heap.get? a = some o) (hk : isGlob sc x = true) (hn : mg x = none) (hm : mb x = some v) (h : Q v s) :
    wpAny (model prog w) A (eval (.Name x pos) env) Q E s := by
  unfold isGlob at hk
  rw [Bool.and_eq_true] at hk
  refine Name_function_global (by rw [O.scope]; exact O.kind) (by unfold Env.kindOf; rw [O.scope]; simpa using hk.1) ?_ (by simpa using hk.2)
  exact loadGlobal_builtin (by rw [O.globals]; exact G.g.keeps hs) hn (by rw [O.builtins]; exact G.b.keeps hs) hm h
/-- a global constant -/
theorem R_gconst {x : Str} {pos : Pos} {v : Value} {d : PyData} (G : GlobOk mg mb hb) (hk : isGlob sc x = true) (hm : mg x = some v) (hr : Rv (fun _ => False) hb v d) : SimE prog w hb k Γ sc (fun _ => some d) (.Name x pos) := by
  intro env O A Y X ρ s d' Q E R S hf q
  cases hf
  exact load_glob G O S.base hk hm (q v s (Kp.refl s) (hr.move fun a o _ e _ => ⟨fun z => (by rw [S.old a z] at e; cases e), S.base a o e⟩))

/-! range -/
noncomputable def rangeL (a : Int) : Nat → List PyData
  | 0 => []
  | n + 1 => .int a :: rangeL (a + 1) n
theorem rangeL_length : ∀ (n : Nat) (a : Int), (rangeL a n).length = n
  | 0, _ => rfl
  | n + 1, a => congrArg (· + 1) (rangeL_length n (a + 1))
theorem rangeL_get : ∀ (n : Nat) (a : Int) (i : Nat) (d : PyData), (rangeL a n)[i]? = some d → d = .int (a + i)
  | 0, _, i, d, h => by simp [rangeL] at h
  | n + 1, a, 0, d, h => by simp [rangeL] at h; rw [← h]; simp
  | n + 1, a, i + 1, d, h => by
    have := rangeL_get n (a + 1) i d (by simpa [rangeL] using h)
    rw [this]; congr 1; omega
noncomputable def range1 (f : Rho → Option PyData) (ρ : Rho) : Option (List PyData) := match f ρ with
  | some (.int n) => if -1000 ≤ n ∧ n ≤ 1000 then some (rangeL 0 n.toNat) else none
  | _ => none
noncomputable def range2 (f g : Rho → Option PyData) (ρ : Rho) : Option (List PyData) := match f ρ, g ρ with
  | some (.int a), some (.int b) => if -1000 ≤ a ∧ a ≤ 1000 ∧ b ≤ 1000 ∧ -1000 ≤ b then some (rangeL a (b - a).toNat) else none
  | _, _ => none
theorem it_range {X : Addr → Prop} {s s₁ : Shared} {a : Int} {n : Nat} (K : Kp s s₁) : ItOk prog w X s.heap (s₁.heap.push { cls := .type "range_iterator", data := .fields #[rawInt a, rawInt (n : Int), rawInt 1] }) (.ref s₁.heap.objs.size) (rangeL a n) := by
  refine ⟨s₁.heap.objs.size, [s₁.heap.objs.size], [s₁.heap.objs.size], fun i v => ∃ t, v = .int (a + i * 1) t, fun i h => IsRangeIter h s₁.heap.objs.size (a + (i : Nat) * 1) ((n : Int) - (i : Nat)) 1, rfl, ?_⟩
  refine ⟨fun A hA => by rw [rangeL_length]; exact Walks.range hA _ a 1 n, ?_, fun b hb => ?_, fun i h st b hb => ?_, fun b hb hw => absurd hb hw, fun i v d hp hd => ?_, fun i h st => ?_⟩
  · show Heap.get? _ _ = _
    rw [Heap.get?_push_size _ rfl]
    simp
  · rw [List.mem_singleton.mp hb]; exact none_back K none_size
  · rw [List.mem_singleton.mp hb]; exact ⟨_, st⟩
  · obtain ⟨t, rfl⟩ := hp
    rw [rangeL_get n a i d hd, Int.mul_one]
    exact .int _ t
  · refine ⟨_, st, fun n' vs' hn hd => ?_⟩
    cases hn
    decide
theorem I_range1 {f : Rho → Option PyData} {e : Expr} {p pos : Pos} (G : GlobOk mg mb hb) (hk : isGlob sc "range" = true) (hn : mg "range" = none) (hv : mb "range" = some (.type "range")) (h : SimE prog w hb k Γ sc f e) (he : ∀ env, starEach [e] env = (false, eval e env) :: starEach [] env) :
    SimI prog w hb k Γ sc (range1 f) (.Call (.Name "range" p) [e] [] pos) := by
  intro env O A Y X ρ s ds Q E R S hf q
  unfold range1 at hf
  split at hf
  case h_2 => cases hf
  rename_i n en
  by_cases hl : -1000 ≤ n ∧ n ≤ 1000
  case neg => rw [if_neg hl] at hf; cases hf
  rw [if_pos hl] at hf
  cases hf
  refine Call_ (load_blt G O S.base hk hn hv ?_) rfl
  refine PyProof.Rows.callWith_type1 (wpAny_items_cons (h env O A Y X ρ s _ _ E R S en fun v s₁ K₁ r₁ => wpAny_items_nil ?_) (he env)) (he env) rfl
  cases r₁ with
  | int _ t =>
    refine call_range_1 ?_
    have K₂ := (K₁.trans (Kp.push s₁ { cls := .type "range", data := .fields #[.int 0 s₁.toks, .int n t, .int 1 (s₁.toks + 1)] })).trans (Kp.tok _ (s₁.toks + 1 + 1))
    have hr := IsRange.new s₁.heap 0 n 1 s₁.toks t (s₁.toks + 1)
    have hN : Builtin.Range.rangeSize 0 n 1 = (n.toNat : Int) := by rw [rangeSize_one]; split <;> omega
    refine wpAny_pyIter_range hr (small_one (by omega) (by omega) (by omega) (by omega)) (q _ _ (K₂.trans (Kp.push _ _)) ?_)
    rw [hN]
    exact it_range K₂
theorem I_range2 {f g : Rho → Option PyData} {e e' : Expr} {p pos : Pos} (G : GlobOk mg mb hb) (hk : isGlob sc "range" = true) (hn : mg "range" = none) (hv : mb "range" = some (.type "range")) (h : SimE prog w hb k Γ sc f e) (h' : SimE prog w hb k Γ sc g e')
    (he : ∀ env, starEach [e, e'] env = (false, eval e env) :: starEach [e'] env) (he' : ∀ env, starEach [e'] env = (false, eval e' env) :: starEach [] env) :
    SimI prog w hb k Γ sc (range2 f g) (.Call (.Name "range" p) [e, e'] [] pos) := by
  intro env O A Y X ρ s ds Q E R S hf q
  unfold range2 at hf
  split at hf
  case h_2 => cases hf
  rename_i a b ea eb
  by_cases hl : -1000 ≤ a ∧ a ≤ 1000 ∧ b ≤ 1000 ∧ -1000 ≤ b
  case neg => rw [if_neg hl] at hf; cases hf
  rw [if_pos hl] at hf
  cases hf
  refine Call_ (load_blt G O S.base hk hn hv ?_) rfl
  refine PyProof.Rows.callWith_type1 (wpAny_items_cons (h env O A Y X ρ s _ _ E R S ea fun v s₁ K₁ r₁ => wpAny_items_cons (h' env O A Y X ρ s₁ _ _ E R (S.keeps K₁) eb fun v' s₂ K₂ r₂ => wpAny_items_nil ?_) (he' env)) (he env)) (he env) (by rw [he' env]; rfl)
  cases r₁ with
  | int _ t =>
    cases r₂ with
    | int _ t' =>
      refine call_range_2 ?_
      have K₃ := ((K₁.trans K₂).trans (Kp.push s₂ { cls := .type "range", data := .fields #[.int a t, .int b t', .int 1 s₂.toks] })).trans (Kp.tok _ (s₂.toks + 1))
      have hr := IsRange.new s₂.heap a b 1 t t' s₂.toks
      have hN : Builtin.Range.rangeSize a b 1 = ((b - a).toNat : Int) := by rw [rangeSize_one]; split <;> omega
      refine wpAny_pyIter_range hr (small_one (by omega) (by omega) (by omega) (by omega)) (q _ _ (K₃.trans (Kp.push _ _)) ?_)
      rw [hN]
      exact it_range K₃

/-! calls of the text's own defs -/
noncomputable def callD (g : List PyData → Option PyData) (fs : Rho → Option (List PyData)) (ρ : Rho) : Option PyData := match fs ρ with
  | some ds => g ds
  | none => none
theorem keeper_fn {h : Heap} {f : Addr} {o : Obj} {fd : FuncData} (e : h.get? f = some o) (d : o.data = .func fd) {M : Model} : ∃ kk, (kk = Keeper.frame ∨ kk = Keeper.machine ∨ kk = Keeper.boundFrame) ∧ Looks M h (keeperOf (.ref f)) kk := by
  refine ⟨.frame, .inl rfl, fun A Q E s hk q => ?_⟩
  unfold keeperOf
  refine wpAny_bind (wpAny_load (hk _ _ e) ?_)
  rw [d]
  exact wpAny_pure q
theorem R_call {f : Addr} {o : Obj} {fd : FuncData} {g : List PyData → Option PyData} {fs : Rho → Option (List PyData)} {x : Str} {e : Expr} {rest : List Expr} {p pos : Pos} (G : GlobOk mg mb hb) (hk : isGlob sc x = true) (hv : mg x = some (.ref f)) (ho : hb.get? f = some o) (hd : o.data = .func fd)
    (hc : CallOk prog w hb k (.ref f) g) (h : SimL prog w hb k Γ sc fs (e :: rest)) (he : ∀ env, starEach (e :: rest) env = (false, eval e env) :: starEach rest env) (hp : ∀ env, ((backTo pos (starEach rest env)).any (·.1)) = false) :
    SimE prog w hb k Γ sc (callD g fs) (.Call (.Name x p) (e :: rest) [] pos) := by
  intro env O A Y X ρ s d Q E R S hf q
  unfold callD at hf
  cases es : fs ρ with
  | none => rw [es] at hf; cases hf
  | some ds =>
    rw [es] at hf
    refine Call_ (load_glob G O S.base hk hv ?_) rfl
    have hm := h env O pos A Y X ρ s ds
    rw [he env] at hm ⊢
    refine callWith_of (P := fun h => h.get? f = some o) (by show ((false || ((backTo pos (starEach rest env)).any (·.1))) || false) = false; rw [hp env]; rfl) (fun h e => keeper_fn e hd) ?_
    refine evalArgs_plain (hm _ E R S es fun vs s₁ K₁ r₁ => ?_)
    have S₁ := S.keeps K₁
    exact ⟨S₁.base _ _ ho, hc A X s₁ vs ds d Q E R S₁.base S₁.dom S₁.old r₁ hf fun v s₂ K₂ r₂ => q v s₂ (K₁.trans K₂) r₂⟩
theorem R_call0 {f : Addr} {o : Obj} {fd : FuncData} {g : List PyData → Option PyData} {x : Str} {p pos : Pos} (G : GlobOk mg mb hb) (hk : isGlob sc x = true) (hv : mg x = some (.ref f)) (ho : hb.get? f = some o) (hd : o.data = .func fd)
    (hc : CallOk prog w hb k (.ref f) g) : SimE prog w hb k Γ sc (fun _ => g []) (.Call (.Name x p) [] [] pos) := by
  intro env O A Y X ρ s d Q E R S hf q
  refine Call_ (load_glob G O S.base hk hv ?_) rfl
  refine callWith_of (P := fun h => h.get? f = some o) rfl (fun h e => keeper_fn e hd) (evalArgs_nil3 ⟨S.base _ _ ho, ?_⟩)
  exact hc A X s [] [] d Q E R S.base S.dom S.old .nil hf q

/-! a def's body -/
noncomputable def runBody (f : Rho → Option Out) (ρ : Rho) : Option PyData := match f ρ with
  | some (.ret d) => some d
  | some (.next _) => some .none
  | _ => none
noncomputable def rho0 (N : Nat) (ds : List PyData) : Rho := ds.map some ++ List.replicate (N - ds.length) none
theorem rget_none : ∀ (n i : Nat) (d : PyData), rget (List.replicate n none) i ≠ some d
  | 0, _, _, h => by simp [rget] at h
  | _ + 1, 0, _, h => by simp [List.replicate_succ, rget] at h
  | n + 1, i + 1, d, h => rget_none n i d (by simpa [List.replicate_succ, rget] using h)
theorem rget_rho0 : ∀ (ds : List PyData) (n i : Nat) (d : PyData), rget (ds.map some ++ List.replicate n none) i = some d → ds[i]? = some d
  | [], n, i, d, h => absurd h (rget_none n i d)
  | e :: ds, n, 0, d, h => by simpa [rget] using h
  | e :: ds, n, i + 1, d, h => by simpa using rget_rho0 ds n i d (by simpa [rget] using h)

noncomputable def defOk (Γ : Lay) (sc : Scope) (ps : List Str) : Bool :=
  (sc.kind == .function && decide ((sc.names.map (·.1)).Nodup) && decide ((Γ.map (·.1)).Nodup) && sc.names.all (fun p => p.2 != .free)) &&
  (Γ.take ps.length == ps.map (fun x => (x, Fl.loc)) && Γ.all (fun p => isStore sc p.1))
structure DefFacts (Γ : Lay) (sc : Scope) (ps : List Str) : Prop where
  kind : sc.kind = .function
  nd : (sc.names.map (·.1)).Nodup
  ndΓ : (Γ.map (·.1)).Nodup
  free : ∀ n, (n, NameKind.free) ∉ sc.names
  take : Γ.take ps.length = ps.map (fun x => (x, Fl.loc))
  store : ∀ p ∈ Γ, isStore sc p.1 = true
theorem defOk_facts {ps : List Str} (h : defOk Γ sc ps = true) : DefFacts Γ sc ps := by
  unfold defOk at h
  obtain ⟨h1, h2⟩ := Bool.and_eq_true_iff.mp h
  obtain ⟨h1, h5⟩ := Bool.and_eq_true_iff.mp h1
  obtain ⟨h1, h4⟩ := Bool.and_eq_true_iff.mp h1
  obtain ⟨h1, h3⟩ := Bool.and_eq_true_iff.mp h1
  obtain ⟨h6, h7⟩ := Bool.and_eq_true_iff.mp h2
  exact ⟨by simpa using h1, of_decide_eq_true h3, of_decide_eq_true h4, fun n hn => by simpa using List.all_eq_true.mp h5 _ hn, by simpa using h6, fun p hp => List.all_eq_true.mp h7 p hp⟩

theorem bindL_get {kindOf : Str → Option NameKind} : ∀ {binds : List (Str × Value)} {m : Str → Option Value} {x : Str} {v : Value}, (binds.map (·.1)).Nodup → (x, v) ∈ binds → kindOf x = some .local → bindL kindOf binds m x = some v := by
  have keep : ∀ {binds : List (Str × Value)} {m : Str → Option Value} {x : Str}, x ∉ binds.map (·.1) → bindL kindOf binds m x = m x := by
    intro binds
    induction binds with
    | nil => intro m x _; rfl
    | cons p r ih =>
      intro m x hx
      obtain ⟨n, v⟩ := p
      rw [List.map_cons, List.mem_cons, not_or] at hx
      unfold bindL
      rw [ih hx.2]
      split
      · exact if_neg hx.1
      · rfl
  intro binds
  induction binds with
  | nil => intro m x v _ h; cases h
  | cons p r ih =>
    intro m x v hn h hk
    obtain ⟨n, u⟩ := p
    rw [List.map_cons, List.nodup_cons] at hn
    unfold bindL
    rcases List.mem_cons.mp h with e | h'
    · cases e
      rw [keep hn.1, if_pos hk]
      exact if_pos rfl
    · exact ih hn.2 h' hk
theorem bindC_get {kindOf : Str → Option NameKind} : ∀ {binds : List (Str × Value)} {m : Str → Option Value} {x : Str} {v : Value}, (binds.map (·.1)).Nodup → (x, v) ∈ binds → kindOf x ≠ some .local → bindC kindOf binds m x = some v := by
  have keep : ∀ {binds : List (Str × Value)} {m : Str → Option Value} {x : Str}, x ∉ binds.map (·.1) → bindC kindOf binds m x = m x := by
    intro binds
    induction binds with
    | nil => intro m x _; rfl
    | cons p r ih =>
      intro m x hx
      obtain ⟨n, v⟩ := p
      rw [List.map_cons, List.mem_cons, not_or] at hx
      unfold bindC
      rw [ih hx.2]
      split
      · rfl
      · exact if_neg hx.1
  intro binds
  induction binds with
  | nil => intro m x v _ h; cases h
  | cons p r ih =>
    intro m x v hn h hk
    obtain ⟨n, u⟩ := p
    rw [List.map_cons, List.nodup_cons] at hn
    unfold bindC
    rcases List.mem_cons.mp h with e | h'
    · cases e
      rw [keep hn.1, if_neg hk]
      exact if_pos rfl
    · exact ih hn.2 h' hk

theorem frame_start {Y : Addr → Prop} {s s₁ : Shared} {a : Addr} {fd : FuncData} {ps : List Str} {vals : List Value} {ds : List PyData} (F : DefFacts Γ sc ps) (hsc : fd.scope = sc) (hgl : fd.globals = mainGlobals) (hbl : fd.builtins = builtinsNs)
    (hbase : ∀ a o, hb.get? a = some o → s.heap.get? a = some o) (hY : ∀ a, Y a → ∃ o, s.heap.get? a = some o) (hYo : ∀ a, Y a → hb.get? a = none) (r : Rvs Y s.heap vals ds) (hlen : vals.length = ps.length)
    (I : InCallC s (callEnvC fd s.heap.objs.size a).locals (bindL (callEnvC fd s.heap.objs.size a).kindOf (ps.zip vals) fun _ => none) (callEnvC fd s.heap.objs.size a).cells (bindC (callEnvC fd s.heap.objs.size a).kindOf (ps.zip vals) fun _ => none) s₁) :
    EnvOk hb sc (callEnvC fd s.heap.objs.size a) ∧
    St hb Γ (callEnvC fd s.heap.objs.size a) Y (fun b => Y b ∨ b = (callEnvC fd s.heap.objs.size a).locals ∨ ∃ n, (callEnvC fd s.heap.objs.size a).cells.lookup n = some b) (rho0 Γ.length ds) s₁ ∧
    (∀ b, (b = (callEnvC fd s.heap.objs.size a).locals ∨ ∃ n, (callEnvC fd s.heap.objs.size a).cells.lookup n = some b) → s.heap.get? b = none) := by
  have eL : (callEnvC fd s.heap.objs.size a).locals = s.heap.objs.size := rfl
  have eS : (callEnvC fd s.heap.objs.size a).scope = sc := hsc
  have eC : (callEnvC fd s.heap.objs.size a).cells = cellsFrom (s.heap.objs.size + 1) sc.names [] := by rw [← hsc]; rfl
  have eG : (callEnvC fd s.heap.objs.size a).globals = mainGlobals := hgl
  have eB : (callEnvC fd s.heap.objs.size a).builtins = builtinsNs := hbl
  generalize callEnvC fd s.heap.objs.size a = env at *
  have kOf : ∀ x, env.kindOf x = sc.names.lookup x := fun x => by unfold Env.kindOf; rw [eS]
  have clk : ∀ x c, env.cells.lookup x = some c → (x, NameKind.cell) ∈ sc.names := by
    intro x c e
    have key : ∀ (names : List (Str × NameKind)) (n : Nat) (acc : List (Str × Addr)), (cellsFrom n names acc).lookup x = some c → (x, NameKind.cell) ∈ names ∨ ∃ c', acc.lookup x = some c' := by
      intro names
      induction names with
      | nil => intro n acc e; exact .inr ⟨c, e⟩
      | cons p r ih =>
        intro n acc e
        obtain ⟨y, kk⟩ := p
        unfold cellsFrom at e
        split at e
        · rename_i hk
          have hk : kk = .cell := by simpa using hk
          subst hk
          rcases ih _ _ e with h | ⟨c', h⟩
          · exact .inl (.tail _ h)
          · rw [List.lookup_cons] at h
            cases q : x == y with
            | true => rw [eq_of_beq q]; exact .inl (.head _)
            | false => rw [q] at h; exact .inr ⟨c', h⟩
        · exact (ih _ _ e).imp (fun h => .tail _ h) id
    rw [eC] at e
    rcases key _ _ _ e with h | ⟨c', h⟩
    · exact h
    · simp at h
  have new : ∀ b, (b = env.locals ∨ ∃ n, env.cells.lookup n = some b) → s.heap.get? b = none := by
    intro b h
    have low : ∀ (b : Nat), s.heap.objs.size ≤ b → s.heap.get? b = none := fun b h => by
      cases e : s.heap.get? b with
      | none => rfl
      | some o => exact absurd (Heap.lt_size e) (Nat.not_lt.mpr h)
    rcases h with h | ⟨n, h⟩
    · rw [h, eL]; exact none_size
    · have := I.above n b (mem_of_lookup h)
      exact low b (Nat.le_of_lt (Nat.lt_of_le_of_lt I.toInCall.fresh this))
  have hbn : ∀ b, s.heap.get? b = none → hb.get? b = none := fun b h => by
    cases e : hb.get? b with
    | none => rfl
    | some o => rw [hbase b o e] at h; cases h
  have nY : ∀ b, Y b → s.heap.get? b ≠ none := fun b y h => by obtain ⟨o, e⟩ := hY b y; rw [h] at e; cases e
  have ck := I.toInCall.keep
  refine ⟨⟨eS, F.kind, eG, eB, fun n n' c h h' => name_of_addr I.apart (mem_of_lookup h) (mem_of_lookup h'), fun n c h e => ?_, fun n c h => .inl (lookup_of_nodup F.nd (clk n c h))⟩, ⟨fun b o e => ck b o (hbase b o e), ⟨fun x => if sc.names.lookup x = some .local then bindL env.kindOf (ps.zip vals) (fun _ => none) x else bindC env.kindOf (ps.zip vals) (fun _ => none) x, ⟨⟨_, I.toInCall.ns, fun x hx => ?_⟩, fun x hx => ?_⟩, fun i x fl d hi hfl hd => ?_, fun i x d hi hd => ?_, fun i j x y b d e hi hj hd _ _ _ => ?_⟩, fun b x => ?_, fun b x => ?_, fun b y => .inl y, ⟨.inr (.inl rfl), fun y => nY _ y (new _ (.inl rfl))⟩, fun n c e => .inr (.inr ⟨n, e⟩), fun i n fl c _ _ e y => nY _ y (new _ (.inr ⟨n, e⟩)), F.ndΓ⟩, new⟩
  · have := I.above n c (mem_of_lookup h)
    rw [e] at this; exact Nat.lt_irrefl _ this
  · rw [kOf] at hx
    rw [if_pos hx]
  · rw [kOf] at hx
    rcases hx with hx | hx
    · obtain ⟨c, hc⟩ := cells_mem (n := s.heap.objs.size + 1) (acc := []) (mem_of_lookup' hx)
      have hc' : env.cells.lookup x = some c := by rw [eC]; exact hc
      refine ⟨c, hc', ?_⟩
      rw [if_neg (by rw [hx]; decide)]
      exact I.cell x c hc'
    · exact absurd (mem_of_lookup' hx) (F.free x)
  · have hd' := rget_rho0 ds _ i d hd
    obtain ⟨v, ev, rv⟩ := r.get hd'
    have hi' : i < ps.length := by rw [← hlen]; exact (List.getElem?_eq_some_iff.mp ev).1
    have q : (Γ.take ps.length)[i]? = some (x, fl) := by rw [List.getElem?_take_of_lt hi']; exact hi
    rw [F.take, List.getElem?_map] at q
    cases ep : ps[i]? with
    | none => rw [ep] at q; cases q
    | some y =>
      rw [ep] at q
      cases q
      have hz : (ps.zip vals)[i]? = some (x, v) := by rw [List.getElem?_zip_eq_some]; exact ⟨ep, ev⟩
      have hmem := List.mem_of_getElem? hz
      have hndp : ((ps.zip vals).map (·.1)).Nodup := by
        have e1 : (ps.zip vals).map (·.1) = ps := by rw [List.map_fst_zip]; omega
        rw [e1]
        have e2 : (Γ.take ps.length).map (·.1) = ps := by rw [F.take, List.map_map]; exact (List.map_congr_left fun _ _ => rfl).trans (List.map_id _)
        rw [← e2]
        exact (F.ndΓ.sublist ((List.take_sublist _ _).map _))
      refine ⟨v, ?_, rv.move fun b o nx e _ => ⟨fun z => z.elim nx (fun z => by rw [new b z] at e; cases e), ck b o e⟩⟩
      by_cases hl : sc.names.lookup x = some .local
      · rw [if_pos hl]; exact bindL_get hndp hmem (by rw [kOf]; exact hl)
      · rw [if_neg hl]; exact bindC_get hndp hmem (by rw [kOf]; exact hl)
  · have hd' := rget_rho0 ds _ i d hd
    obtain ⟨v, ev, _⟩ := r.get hd'
    have hi' : i < ps.length := by rw [← hlen]; exact (List.getElem?_eq_some_iff.mp ev).1
    have q : (Γ.take ps.length)[i]? = some (x, .own) := by rw [List.getElem?_take_of_lt hi']; exact hi
    rw [F.take, List.getElem?_map] at q
    cases ep : ps[i]? with
    | none => rw [ep] at q; cases q
    | some y => rw [ep] at q; cases q
  · have hd' := rget_rho0 ds _ i d hd
    obtain ⟨v, ev, _⟩ := r.get hd'
    have hi' : i < ps.length := by rw [← hlen]; exact (List.getElem?_eq_some_iff.mp ev).1
    have q : (Γ.take ps.length)[i]? = some (x, .own) := by rw [List.getElem?_take_of_lt hi']; exact hi
    rw [F.take, List.getElem?_map] at q
    cases ep : ps[i]? with
    | none => rw [ep] at q; cases q
    | some y => rw [ep] at q; cases q
  · rcases x with x | x | ⟨n, x⟩
    · obtain ⟨o, e⟩ := hY b x; exact ⟨o, ck b o e⟩
    · obtain ⟨o, _, _, e, _⟩ := I.toInCall.ns; exact ⟨o, x ▸ e⟩
    · obtain ⟨o, e, _⟩ := I.cell n b x; exact ⟨o, e⟩
  · rcases x with x | x
    · exact hYo b x
    · exact hbn b (new b x)

end
end Mine


namespace Mine
section
variable {prog : Program} {w : World} {hb : Heap} {k : Nat} {Γ Γ' : Lay} {sc csc : Scope} {mg mb : Str → Option Value}

theorem isTup_of {h : Heap} {a : Addr} {o : Obj} {vs : Array Value} {n : Nat} (e : h.get? a = some o) (c : PlainO "tuple" o vs n) : IsTup h a vs := ⟨o, e, c.cls, n, by rw [c]⟩
/-- items -/
noncomputable def itemD (a b : PyData) : Option PyData := match a, b with
  | .list ds, .int i => if 0 ≤ i ∧ i < 100000 then ds[i.toNat]? else none
  | .tuple ds, .int i => if 0 ≤ i ∧ i < 100000 then ds[i.toNat]? else none
  | .str x, .int i => if 0 ≤ i ∧ i < 100000 then (x.cps[i.toNat]?).map (fun c => .str ⟨#[c]⟩) else none
  | _, _ => none
noncomputable def subscrOk (slice : Expr) : Prop := ∀ o i, subscripted slice false o i = operate [o, i] (getItem o i)

theorem item_any {A : Around} {E : Value → Shared → Prop} {s : Shared} {X : Addr → Prop} {value slice : Expr} {u v : Value} {a b d : PyData} {Q : Value → Shared → Prop} (hs : subscrOk slice) (r₁ : Rb X s.heap u a) (r₂ : Rv X s.heap v b) (hf : itemD a b = some d)
    (q : ∀ v s', Kp s s' → Rv X s'.heap v d → Q v s') : wpAny (model prog w) A (subscriptTail value slice u v) Q E s := by
  unfold itemD at hf
  split at hf
  case h_4 => cases hf
  · rename_i ds i
    by_cases hl : 0 ≤ i ∧ i < 100000
    case neg => rw [if_neg hl] at hf; cases hf
    rw [if_pos hl] at hf
    cases r₂ with
    | int _ t =>
      have key : ∀ {a : Addr} {o : Obj} {vs : Array Value} {n : Nat}, s.heap.get? a = some o → PlainO "list" o vs n → o.data = .seq vs n → Rvs X s.heap vs.toList ds → wpAny (model prog w) A (subscriptTail value slice (.ref a) (.int i t)) Q E s := by
        intro a o vs n e c dt r
        obtain ⟨v, ev, rv⟩ := r.get hf
        have hL : s.heap.IsList a vs := ⟨o, e, c.cls, n, dt⟩
        exact tail_any hL.typeIs slot_list_getitem.lookup (wpAny_getItem_list hL hl.1 (by omega) (by simpa using ev) (q _ s (Kp.refl s) rv)) (hs _ _)
      cases r₁ with
      | val r =>
        cases r with
        | list x e c dt r => exact key e c dt r
      | own e1 e2 e3 e4 e5 r =>
        subst e1; cases e2
        exact key e3 e4 e5 r
  · rename_i ds i
    by_cases hl : 0 ≤ i ∧ i < 100000
    case neg => rw [if_neg hl] at hf; cases hf
    rw [if_pos hl] at hf
    cases r₂ with
    | int _ t =>
      cases r₁ with
      | val r =>
        cases r with
        | tuple x e c dt r =>
          obtain ⟨v, ev, rv⟩ := r.get hf
          have hT := isTup_of e c
          have hlt := (List.getElem?_eq_some_iff.mp ev).1
          exact tail_any hT.typeIs slot_tuple_getitem.lookup (getItem_tuple hT (by omega) (by omega) (seqIndex_of hl.1 (by simp at hlt; omega)) (by simpa using ev) (q _ s (Kp.refl s) rv)) (hs _ _)
      | own e1 e2 e3 e4 e5 r => cases e2
  · rename_i x i
    by_cases hl : 0 ≤ i ∧ i < 100000
    case neg => rw [if_neg hl] at hf; cases hf
    rw [if_pos hl] at hf
    cases ec : x.cps[i.toNat]? with
    | none => rw [ec] at hf; cases hf
    | some c =>
      rw [ec] at hf
      cases hf
      have hlt : i.toNat < x.cps.size := (Array.getElem?_eq_some_iff.mp ec).1
      cases r₂ with
      | int _ t =>
        cases r₁ with
        | val r =>
          cases r with
          | str _ t' =>
            refine tail_any (typeIs_str _ _ _) F.slot_str_getitem.lookup (getItem_gives (typeIs_str _ _ _) (by decide) F.slot_str_getitem F.entry_str_getitem (F.args_str_getitem_2 _ _) (gives_str_getitem x i t' t c ?_ ?_) ?_) (hs _ _)
            · simp only [Bool.or_eq_false_iff, decide_eq_false_iff_not]; omega
            · rw [seqIndex_of hl.1 (by show i < ((x.cps.size : Nat) : Int); omega)]; exact ec
            · exact ⟨by show 1 ≤ sizeLine; decide, q _ _ (Kp.tok s _) (.str _ _)⟩
        | own e1 e2 e3 e4 e5 r => cases e2
theorem R_item {f g : Rho → Option PyData} {value slice : Expr} {pos : Pos} (hv : SimB prog w hb k Γ sc f value) (hi : SimE prog w hb k Γ sc g slice) (hs : subscrOk slice) :
    SimE prog w hb k Γ sc (bin itemD f g) (.Subscript value slice pos) := by
  intro env O A Y X ρ s d Q E R S hf q
  obtain ⟨a, b, ha, hb', hF⟩ := bin_some hf
  refine Subscript_ (hv env O A Y X ρ s a _ E R S ha fun u s₁ K₁ r₁ => hi env O A Y X ρ s₁ b _ E R (S.keeps K₁) hb' fun v s₂ K₂ r₂ => ?_)
  exact item_any hs (r₁.keeps K₂.get) r₂ hF fun v s' K r => q v s' ((K₁.trans K₂).trans K) r

/-! truth of a value -/
noncomputable def truthD (a : PyData) : Option Bool := match a with
  | .none => none
  | .bool b => some b
  | .int i => some (i != 0)
  | .str x => if x.length ≤ lim then some (x.length != 0) else none
  | .list ds => if ds.length ≤ lim then some (ds.length != 0) else none
  | .tuple ds => if ds.length ≤ lim then some (ds.length != 0) else none
  | _ => none
theorem size_truth (n : Nat) (vs : Array Value) (h : vs.toList.length = n) : (!vs.isEmpty) = (n != 0) := by
  subst h
  cases hv : vs.toList with
  | nil => have : vs = #[] := by apply Array.toList_inj.mp; simpa using hv
           subst this; rfl
  | cons a l => have : vs.size ≠ 0 := by rw [← Array.length_toList, hv]; simp
                simp [Array.isEmpty, this]
theorem truthy_any {A : Around} {E : Value → Shared → Prop} {s : Shared} {X : Addr → Prop} {u : Value} {a : PyData} {b : Bool} {Q : Bool → Shared → Prop} (r : Rb X s.heap u a) (hf : truthD a = some b) (q : ∀ s', Kp s s' → Q b s') :
    wpAny (model prog w) A (truthy u) Q E s := by
  have lst : ∀ {a : Addr} {o : Obj} {vs : Array Value} {n : Nat} {ds : List PyData}, s.heap.get? a = some o → PlainO "list" o vs n → Rvs X s.heap vs.toList ds → ds.length ≤ lim → (ds.length != 0) = b → wpAny (model prog w) A (truthy (.ref a)) Q E s := by
    intro a o vs n ds e c r hl hb'
    have hlen := r.length
    unfold lim at hl
    have hL : s.heap.IsList a vs := ⟨_, e, c.cls, n, by rw [c]⟩
    refine wpAny_truthy_list hL (by simp at hlen; omega) ?_
    rw [size_truth _ _ hlen, hb']
    exact q _ (Kp.tok s _)
  cases r with
  | own e1 e2 e3 e4 e5 r =>
    subst e1 e2
    unfold truthD at hf
    dsimp only at hf
    split at hf
    case isFalse => cases hf
    rename_i hl
    cases hf
    exact lst e3 e4 r hl rfl
  | val r =>
    cases r with
    | none => cases hf
    | bool b' => cases hf; exact wpAny_truthy_bool (q s (Kp.refl s))
    | int i t => cases hf; exact PySem.P.truthy_int (q s (Kp.refl s))
    | str x t =>
      unfold truthD at hf
      dsimp only at hf
      split at hf
      case isFalse => cases hf
      rename_i hl
      cases hf
      unfold lim at hl
      refine PySem.P.truthy_str (by omega) ?_
      have : ((x.length : Int) != 0) = (x.length != 0) := by
        by_cases h : x.length = 0
        · rw [h]; rfl
        · rw [bne_iff_ne.mpr h, bne_iff_ne.mpr (by omega)]
      rw [this]
      exact q _ (Kp.tok s _)
    | list x e c dt r =>
      unfold truthD at hf
      dsimp only at hf
      split at hf
      case isFalse => cases hf
      rename_i hl
      cases hf
      exact lst e c r hl rfl
    | tuple x e c dt r =>
      unfold truthD at hf
      dsimp only at hf
      split at hf
      case isFalse => cases hf
      rename_i hl
      cases hf
      have hlen := r.length
      unfold lim at hl
      refine truthy_tuple (isTup_of e c) (by simp at hlen; omega) ?_
      rw [size_truth _ _ hlen]
      exact q _ (Kp.tok s _)
    | dict => cases hf
noncomputable def truthC (f : Rho → Option PyData) (ρ : Rho) : Option Bool := match f ρ with
  | some a => truthD a
  | none => none
theorem C_value {f : Rho → Option PyData} {e : Expr} (h : SimB prog w hb k Γ sc f e) (he : ∀ env whole, isTrue e env whole = (do let v ← whole; standAt e.pos; holding [v] (truthy v))) : SimC prog w hb k Γ sc (truthC f) e := by
  intro env O A Y X ρ s b Q E R S hf q
  unfold truthC at hf
  cases ea : f ρ with
  | none => rw [ea] at hf; cases hf
  | some a =>
    rw [ea] at hf
    exact wpAny_isTrue_value (h env O A Y X ρ s a _ E R S ea fun v s₁ K₁ r₁ => truthy_any r₁ hf fun s' K => q s' (K₁.trans K)) (he _ _)

/-! `len` -/
noncomputable def lenD (f : Rho → Option PyData) (ρ : Rho) : Option PyData := match f ρ with
  | some (.list ds) => if ds.length ≤ lim then some (.int ds.length) else none
  | some (.str x) => if x.length ≤ lim then some (.int x.length) else none
  | _ => none
theorem R_len {f : Rho → Option PyData} {e : Expr} {p pos : Pos} (G : GlobOk mg mb hb) (hk : isGlob sc "len" = true) (hn : mg "len" = none) (hv : mb "len" = some (.builtin "len")) (h : SimB prog w hb k Γ sc f e) (he : ∀ env, starEach [e] env = [(false, eval e env)]) :
    SimE prog w hb k Γ sc (lenD f) (.Call (.Name "len" p) [e] [] pos) := by
  intro env O A Y X ρ s d Q E R S hf q
  unfold lenD at hf
  have lst : ∀ {a : Addr} {s₁ : Shared} {o : Obj} {vs : Array Value} {n : Nat} {ds : List PyData}, Kp s s₁ → s₁.heap.get? a = some o → PlainO "list" o vs n → Rvs X s₁.heap vs.toList ds → ds.length ≤ lim → d = .int ds.length → wpAny (model prog w) A (call (.builtin "len") [.ref a]) Q E s₁ := by
    intro a s₁ o vs n ds K₁ e c r hl hd
    have hlen := r.length
    unfold lim at hl
    have hL : s₁.heap.IsList a vs := ⟨_, e, c.cls, n, by rw [c]⟩
    refine PyProof.Rows.len_list hL (by simp at hlen; omega) ?_
    have : (vs.size : Int) = (ds.length : Int) := by simp at hlen; omega
    rw [this]
    refine q _ _ (K₁.trans (Kp.tok s₁ _)) ?_
    rw [hd]; exact .int _ _
  refine Call_ (load_blt G O S.base hk hn hv ?_) rfl
  rw [he env]
  refine callWith_builtin1 ?_
  split at hf
  case h_3 => cases hf
  · rename_i ds ef
    split at hf
    case isFalse => cases hf
    rename_i hl
    cases hf
    refine h env O A Y X ρ s _ _ E R S ef fun v s₁ K₁ r₁ => ?_
    cases r₁ with
    | own e1 e2 e3 e4 e5 r => subst e1; cases e2; exact lst K₁ e3 e4 r hl rfl
    | val r => cases r with | list x e c dt r => exact lst K₁ e c r hl rfl
  · rename_i x ef
    split at hf
    case isFalse => cases hf
    rename_i hl
    cases hf
    refine h env O A Y X ρ s _ _ E R S ef fun v s₁ K₁ r₁ => ?_
    cases r₁ with
    | own e1 e2 e3 e4 e5 r => cases e2
    | val r =>
      cases r with
      | str _ t => unfold lim at hl; exact P.len_str (by omega) (q _ _ (K₁.trans (Kp.tok s₁ _)) (.int _ _))
end
end Mine


namespace Mine
section
variable {prog : Program} {w : World} {hb : Heap} {k : Nat} {Γ Γ' : Lay} {sc csc : Scope} {mg mb : Str → Option Value}

noncomputable def strsOf : List PyData → Option (List Str)
  | [] => some []
  | .str x :: r => match strsOf r with
    | some l => some (x :: l)
    | none => none
  | _ :: _ => none
theorem strs_values {X : Addr → Prop} {h : Heap} : ∀ {vs : List Value} {ds : List PyData} {xs : List Str}, Rvs X h vs ds → strsOf ds = some xs → ∃ l : List (Str × Tok), vs = strValues l ∧ l.map (·.1) = xs
  | _, _, _, .nil, e => by cases e; exact ⟨[], rfl, rfl⟩
  | _, _, _, .cons (d := d) a b, e => by
    unfold strsOf at e
    split at e
    · rename_i h; cases h
    · rename_i x r h
      cases h
      split at e
      · rename_i l el
        cases e
        obtain ⟨l', e1, e2⟩ := strs_values b el
        cases a with
        | str _ t => exact ⟨(x, t) :: l', by rw [e1]; rfl, by rw [List.map_cons, e2]⟩
      · cases e
    · cases e
/-- the list of such strings bears them -/
theorem rvs_strs {X : Addr → Prop} {h : Heap} : ∀ (l : List (Str × Tok)), Rvs X h (strValues l) ((l.map (·.1)).map .str)
  | [] => .nil
  | (x, t) :: l => .cons (.str x t) (rvs_strs l)

/-! a method of a text, one argument -/
noncomputable def methD (F : Str → PyData → Option PyData) (f g : Rho → Option PyData) (ρ : Rho) : Option PyData := match f ρ, g ρ with
  | some (.str x), some a => F x a
  | _, _ => none
noncomputable def MethOk (prog : Program) (w : World) (id : String) (F' : Str → PyData → Option PyData) : Prop :=
  ∀ (A : Around) (X : Addr → Prop) (s : Shared) (x : Str) (t : Tok) (v : Value) (a d : PyData) (Q E : Value → Shared → Prop), A.units + 200 < cLine → (∀ a, X a → ∃ o, s.heap.get? a = some o) → Rb X s.heap v a → F' x a = some d →
    (∀ v s', Kp s s' → Rv X s'.heap v d → Q v s') → wpAny (model prog w) A (call (.builtin id) [.str x t, v]) Q E s
theorem R_smeth {id : String} {name : Str} {F' : Str → PyData → Option PyData} {f g : Rho → Option PyData} {o e : Expr} {apos cp : Pos} (ok : MethOk prog w id F') (slot : Slot "str" name id) (ty : typeOf (.builtin id) = pure (.type "method_descriptor"))
    (hf : SimE prog w hb k Γ sc f o) (hg : SimB prog w hb k Γ sc g e) (hm : MethForm o name apos cp [e]) (he : ∀ env, starEach [e] env = (false, eval e env) :: starEach [] env) :
    SimE prog w hb k Γ sc (methD F' f g) (.Call (.Attribute o name apos) [e] [] cp) := by
  intro env O A Y X ρ s d Q E R S h q
  unfold methD at h
  split at h
  case h_2 => cases h
  rename_i x a ef eg
  refine meth_call (T := "str") (id := id) hm F.plainAttrs_str slot ty (he env) rfl ?_
  refine hf env O A Y X ρ s _ _ E R S ef fun v s₁ K₁ r₁ => ?_
  cases r₁ with
  | str _ t =>
    refine ⟨typeIs_str _ _ _, (fun a ha => by cases ha), ?_⟩
    refine wpAny_items_cons (hg env O A Y X ρ s₁ a _ E R (S.keeps K₁) eg fun v s₂ K₂ r₂ => wpAny_items_nil ?_) (he env)
    exact ok A X s₂ x t v a d Q E (by have := R.2.2; omega) ((S.keeps K₁).keeps K₂).dom r₂ h fun v s' K r => q v s' ((K₁.trans K₂).trans K) r
noncomputable def startsF (x : Str) : PyData → Option PyData
  | .str y => some (.bool (Txt.startswith x y))
  | _ => none
theorem M_startswith : MethOk prog w "str.startswith" startsF := by
  intro A X s x t v a d Q E _ _ r hf q
  cases r with
  | own e1 e2 => subst e2; cases hf
  | val r =>
    cases r with
    | str y u => cases hf; exact SC.startswith (q _ s (Kp.refl s) (.bool _))
    | _ => cases hf
noncomputable def endsF (x : Str) : PyData → Option PyData
  | .str y => some (.bool (Txt.endswith x y))
  | _ => none
theorem M_endswith : MethOk prog w "str.endswith" endsF := by
  intro A X s x t v a d Q E _ _ r hf q
  cases r with
  | own e1 e2 => subst e2; cases hf
  | val r =>
    cases r with
    | str y u => cases hf; exact SC.endswith (q _ s (Kp.refl s) (.bool _))
    | _ => cases hf
noncomputable def splitF (x : Str) : PyData → Option PyData
  | .str y => if x.length ≤ lim ∧ y.length ≠ 0 then some (.list ((Txt.split x y).map .str)) else none
  | _ => none
theorem newStrs {X : Addr → Prop} {s : Shared} (hX : ∀ a, X a → ∃ o, s.heap.get? a = some o) (l : List (Str × Tok)) (tk : Nat) {xs : List Str} (e : l.map (·.1) = xs) :
    Kp s { s with heap := s.heap.push { cls := .type "list", data := .seq (strValues l).toArray }, toks := tk } ∧ Rv X (s.heap.push { cls := .type "list", data := .seq (strValues l).toArray }) (.ref s.heap.objs.size) (.list (xs.map .str)) := by
  subst e
  exact ⟨(Kp.push s _).trans (Kp.tok _ tk), Rv.newList hX (rvs_strs l)⟩
theorem M_split : MethOk prog w "str.split" splitF := by
  intro A X s x t v a d Q E _ hX r hf q
  cases r with
  | own e1 e2 => subst e2; cases hf
  | val r =>
    cases r with
    | str y u =>
      unfold splitF at hf
      dsimp only at hf
      split at hf
      case isFalse => cases hf
      rename_i hl
      cases hf
      have l1 : lim + 2 ≤ sizeLine := by decide
      have hy : (y.length == 0) = false := by simpa using hl.2
      have hsz : x.length ≤ sizeLine := by omega
      have q' : ∀ (l : List (Str × Tok)) (tk : Nat), l.map (·.1) = Txt.split x y → Q (.ref s.heap.objs.size) { s with heap := s.heap.push { cls := .type "list", data := .seq (strValues l).toArray }, toks := tk } := fun l tk e =>
        let z := newStrs hX l tk e; q _ _ z.1 z.2
      cases h1 : (decide (x.length < y.length) || decide (Builtin.Str.strKind x < Builtin.Str.strKind y))
      · cases hf : (Builtin.Str.occurrences x y 0 x.length (x.length + 1)).isEmpty
        · refine call_meets PySem.F.slot_str_split (typeIs_str _ _ _) PySem.F.entry_str_split (PySem.F.args_str_split_2 _ _) (meets_str_split_sep x y t u h1 hy hf hsz ?_) ?_
          · rw [len_partsBetween]
            have := StrLaws.occ_length_le x y 0 x.length (x.length + 1)
            omega
          show wants Q E _ { s with toks := _, heap := s.heap.push { cls := .type "list", data := .seq (strsFrom s.toks (Builtin.Str.partsBetween x (Builtin.Str.occurrences x y 0 x.length (x.length + 1)) y.length)).toArray } }
          rw [strsFrom_eq]
          exact q' (numbered s.toks _) _ ((numbered_texts _ _).trans ((if_neg (ne_true_of_eq_false h1)).trans (if_neg (ne_true_of_eq_false hf))).symm)
        · exact call_meets PySem.F.slot_str_split (typeIs_str _ _ _) PySem.F.entry_str_split (PySem.F.args_str_split_2 _ _) (meets_str_split_not_found x y t u h1 hy hf)
            (q' [(x, t)] s.toks ((if_neg (ne_true_of_eq_false h1)).trans (if_pos hf)).symm)
      · exact call_meets PySem.F.slot_str_split (typeIs_str _ _ _) PySem.F.entry_str_split (PySem.F.args_str_split_2 _ _) (meets_str_split_cannot_occur x y t u h1)
          (q' [(x, t)] s.toks (if_pos h1).symm)
    | _ => cases hf
noncomputable def joinF (x : Str) : PyData → Option PyData
  | .list ds => match strsOf ds with
    | some ys => if JoinOk x ys = true then some (.str (Txt.join x ys)) else none
    | none => none
  | _ => none
theorem M_join : MethOk prog w "str.join" joinF := by
  intro A X s x t v a d Q E _ _ r hf q
  have key : ∀ {a : Addr} {o : Obj} {vs : Array Value} {n : Nat} {ds : List PyData}, s.heap.get? a = some o → PlainO "list" o vs n → Rvs X s.heap vs.toList ds → joinF x (.list ds) = some d → wpAny (model prog w) A (call (.builtin "str.join") [.str x t, .ref a]) Q E s := by
    intro a o vs n ds e c r hf
    unfold joinF at hf
    dsimp only at hf
    split at hf
    case h_2 => cases hf
    rename_i ys ey
    split at hf
    case isFalse => cases hf
    rename_i hok
    cases hf
    obtain ⟨l, e1, e2⟩ := strs_values r ey
    have hL : s.heap.IsList a (strValues l).toArray := ⟨_, e, c.cls, n, by rw [c, ← e1]⟩
    exact SC.join hL e2 hok fun t' k => q _ _ (Kp.tok s k) (.str _ _)
  cases r with
  | own e1 e2 e3 e4 e5 r => subst e1 e2; exact key e3 e4 r hf
  | val r =>
    cases r with
    | list x e c dt r => exact key e c r hf
    | _ => cases hf

/-! `xs[:b]` -/
noncomputable def takeD (a b : PyData) : Option PyData := match a, b with
  | .list ds, .int i => if 0 ≤ i ∧ ds.length ≤ lim then some (.list (ds.take i.toNat)) else none
  | _, _ => none
theorem Rvs.take {X : Addr → Prop} {h : Heap} : ∀ {vs : List Value} {ds : List PyData} (n : Nat), Rvs X h vs ds → Rvs X h (vs.take n) (ds.take n)
  | _, _, _, .nil => by simp; exact .nil
  | _, _, 0, .cons _ _ => by simp; exact .nil
  | _, _, n + 1, .cons a b => by simp only [List.take_succ_cons]; exact .cons a (Rvs.take n b)
theorem R_take {f g : Rho → Option PyData} {value e : Expr} {p pos : Pos} (hv : SimB prog w hb k Γ sc f value) (hi : SimE prog w hb k Γ sc g e) (ht : ∀ o r, letTemporaryGo value o r = pure ()) :
    SimE prog w hb k Γ sc (bin takeD f g) (.Subscript value (.Slice none (some e) none p) pos) := by
  intro env O A Y X ρ s d Q E R S hf q
  obtain ⟨a, b, ha, hb', hF⟩ := bin_some hf
  refine wpAny_Subscript_list_slice (hv env O A Y X ρ s a _ E R S ha fun u s₁ K₁ r₁ => ?_) ht
  rw [evalPart_none]
  refine wpAny_pure ?_
  rw [evalPart_some]
  refine hi env O A Y X ρ s₁ b _ E R (S.keeps K₁) hb' fun v s₂ K₂ r₂ => ?_
  have r₁ := r₁.keeps K₂.get
  have S₂ := (S.keeps K₁).keeps K₂
  unfold takeD at hF
  split at hF
  case h_2 => cases hF
  rename_i ds i _
  split at hF
  case isFalse => cases hF
  rename_i hl
  cases hF
  have l1 := lim_line
  cases r₂ with
  | int _ t =>
    have key : ∀ {a : Addr} {o : Obj} {vs : Array Value} {n : Nat}, s₂.heap.get? a = some o → PlainO "list" o vs n → Rvs X s₂.heap vs.toList ds →
        ∃ l items lo hi, (Value.ref a) = .ref l ∧ s₂.heap.IsList l items ∧ items.size ≤ sizeLine ∧ IsPart .none lo ∧ IsPart (.int i t) hi ∧
        Q (.ref (s₂.heap.objs.size + 1)) { s₂ with heap := (s₂.heap.push { cls := .type "slice", data := .fields #[.none, .int i t, .none] }).push { cls := .type "list", data := .seq (slicePick items lo hi none) } } := by
      intro a o vs n e c r
      have hlen := r.length
      rw [Array.length_toList] at hlen
      obtain ⟨b, rfl⟩ := Int.eq_ofNat_of_zero_le hl.1
      refine ⟨a, vs, none, some b, rfl, ⟨_, e, c.cls, n, by rw [c]⟩, by omega, .none, .int _ _, ?_⟩
      rw [slicePick_upto' vs b]
      have K := Kp.push s₂ { cls := .type "slice", data := .fields #[.none, .int b t, .none] }
      have z := Rv.newList (vs := vs.toList.take b) (ds := ds.take b) (S₂.keeps K).dom ((r.take b).keeps K.get)
      have hsz := Heap.size_push s₂.heap { cls := .type "slice", data := .fields #[.none, .int b t, .none] }
      rw [hsz] at z
      exact q _ _ (((K₁.trans K₂).trans K).trans (Kp.push _ _)) z
    cases r₁ with
    | own e1 e2 e3 e4 e5 r => subst e1; cases e2; exact key e3 e4 r
    | val r => cases r with | list x e c dt r => exact key e c r

/-! `text[:0]` -/
end
end Mine


namespace Mine
/-! `dict.fromkeys(xs)` -/
noncomputable def boundFk : Obj := { cls := .type "builtin_function_or_method", data := .fields #[.builtin "dict.fromkeys", .type "dict"] }
theorem type_fk : typeOf (.builtin "dict.fromkeys") = pure (.type "classmethod_descriptor") := by show builtinType _ = _; rw [builtinType_eq_fast]; kernel_rfl
theorem entry_fk : entryFor table "dict.fromkeys" = some Builtin.«dict.fromkeys» := entryFor_of_tree (by kernel_rfl)
theorem entry_fkl : entryFor table "dict.fromkeys.loop" = some Builtin.«dict.fromkeys.loop» := entryFor_of_tree (by kernel_rfl)
theorem plain_fkl : plainId "dict.fromkeys.loop" = true := by decide +kernel
theorem quiet_fk {as : Args} : (Code.builtin "dict.fromkeys" as).quiet = true := Code.quiet_builtin _ (by decide +kernel)
theorem type_dictT : isType (.type "dict") = pure true := by first | rfl | kernel_rfl | (unfold isType; rw [isSubtype_type]; kernel_rfl)
theorem slot_cget : Slot "classmethod_descriptor" "__get__" "classmethod_descriptor.__get__" :=
  .of (owner := "classmethod_descriptor") (n := "__get__") (by rw [typeLookup_type, builtinLookup_eq_fast]; kernel_rfl) (by decide +kernel) (by decide +kernel) (by decide +kernel)
    (by first | exact .inl (by decide +kernel) | exact .inr (by decide +kernel)) (by rw [isSubtype_type]; kernel_rfl)
theorem entry_cget : entryFor table "classmethod_descriptor.__get__" = some Builtin.«classmethod_descriptor.__get__» := entryFor_of_tree (by kernel_rfl)
theorem args_cget (a b c : Value) : argsOk "classmethod_descriptor.__get__" ⟨[a, b, c], []⟩ := by unfold argsOk; kernel_rfl
theorem find_fk : findCls [] (.type "dict") (.type "type") (PySem.Str.ofString "fromkeys") = some (.get (.builtin "classmethod_descriptor.__get__") (.builtin "dict.fromkeys") .none (.type "dict")) := by kernel_rfl
theorem check_fk {v : Value} : checkBoundCall "dict.fromkeys" ⟨[.type "dict", v], []⟩ = pure () := by first | kernel_rfl | rfl

section
variable {prog : Program} {w : World} {M : Model} {A : Around} {E : Value → Shared → Prop} {s : Shared}
theorem run_getFk {P : Fin → Shared → Prop} (h : P (.done (.ret (.ref s.heap.objs.size))) { s with heap := s.heap.push boundFk }) :
    wpAny M A (Builtin.«classmethod_descriptor.__get__» ⟨[.builtin "dict.fromkeys", .none, .type "dict"], []⟩) P E s := by
  unfold Builtin.«classmethod_descriptor.__get__»
  refine wpAny_bind (wpAny_of_eq (a := (.builtin "dict.fromkeys", none, some (.type "dict"))) (by first | rfl | kernel_rfl) ?_)
  dsimp only
  refine wpAny_bind (wpAny_of_eq (a := .type "dict") rfl ?_)
  refine wpAny_bind (wpAny_of_eq (a := true) type_dictT ?_)
  refine else_way rfl ?_
  refine wpAny_bind (wpAny_of_eq (a := true) F.kt_sub_dict ?_)
  refine else_way rfl ?_
  exact wpAny_bind (wpAny_newObj_type (wpAny_pure h))

theorem getFk {pl : Sem Bool} {Q : Value × List Value → Shared → Prop} (h : Q (.ref s.heap.objs.size, []) { s with heap := s.heap.push boundFk, toks := s.toks + 1 }) :
    wpAny (model prog w) A (getMethod (.type "dict") (PySem.Str.ofString "fromkeys") pl) Q E s := by
  have X : Frag.In [] s.heap := fun a o e => by cases e
  have hstub : opaqueClassAbove (.type "dict") = pure none := by unfold opaqueClassAbove; dsimp only; rw [show Manifest.isStub "dict" = false by decide +kernel]; rfl
  have ht : typeOf (.type "dict") = pure (.type "type") := by first | rfl | kernel_rfl
  have L0 : Looks (model prog w) s.heap (typeOf (.type "dict")) (.type "type") := Looks.of_pure ht
  have hg : findIn [] (.type "type") "__getattribute__" = some (some (.builtin "type.__getattribute__")) := type_tga
  unfold getMethod specialOf
  refine wpAny_bind (wpAny_bind (L0.here ((looks_findIn X hg).here ?_)))
  dsimp only
  rw [if_pos canon_tga]
  refine wpAny_bind (wpAny_mono (Q := fun v => Q (v, [])) (E := E) ?_ (fun _ _ z => wpAny_pure z) fun _ _ z => z)
  have LO : Looks (model prog w) s.heap (opaqueClassAbove (.type "dict")) none := Looks.of_pure hstub
  refine cls_open X LO L0 hg (looks_hook X (r := none) (by rfl)) (by show subIn [] _ _ = _; rfl) find_fk ?_
  show wpAny _ _ (holding [.builtin "dict.fromkeys"] (call (.builtin "classmethod_descriptor.__get__") [.builtin "dict.fromkeys", .none, .type "dict"]) >>= fun v => ret v) _ _ _
  refine wpAny_bind (wpAny_holding (wpAny_call_entry slot_cget type_fk entry_cget (run_getFk ⟨_, rfl, wpAny_pure (wpAny_pure h)⟩) (args_cget _ _ _)))

theorem typeCall_dict_0 : checkTypeCall "dict" ⟨[], []⟩ = pure () := by kernel_rfl
theorem newCall_dict_0 : checkBuiltinCall "dict.__new__" ⟨[.type "dict"], []⟩ = pure () := by kernel_rfl
theorem args_dict_init_0 (a : Value) : argsOk "dict.__init__" ⟨[a], []⟩ := by unfold argsOk; kernel_rfl
theorem code_dict_new0 {Q₁ : Value → Shared → Prop} (h : Q₁ (.ref s.heap.objs.size) { s with heap := s.heap.push { cls := .type "dict", data := .dict #[] } }) :
    codeAny (model prog w) A (.call (.builtin "dict.__new__") ⟨[.type "dict"], []⟩) (wants Q₁ E) s := by
  refine codeAny_call_builtin F.kt_plain_dict_new F.kt_entry_dict_new (wpAny_of_eq newCall_dict_0 ?_)
  have hsub := F.kt_sub_dict
  have hmro := F.kt_mro_dict
  obtain ⟨hp, g, d, tk, os⟩ := s
  unfold Builtin.«dict.__new__»
  wp_walk
  exact h
theorem call_dict0 {Q : Value → Shared → Prop} (h : Q (.ref s.heap.objs.size) { s with heap := s.heap.push { cls := .type "dict", data := .dict #[] } }) :
    wpAny (model prog w) A (call (.type "dict") []) Q E s := by
  refine callType_codes (Q₁ := fun obj s₁ => obj = .ref s.heap.objs.size ∧ s₁ = { s with heap := s.heap.push { cls := .type "dict", data := .dict #[] } }) F.kt_called_dict typeCall_dict_0 F.entry_dict_init (code_dict_new0 ⟨rfl, rfl⟩) ?_
  rintro obj s₁ ⟨rfl, rfl⟩
  have hT : Shared.TypeIs { s with heap := s.heap.push { cls := .type "dict", data := .dict #[] } } (.ref s.heap.objs.size) "dict" := ⟨_, Heap.get?_push_size _ rfl, rfl⟩
  refine ⟨hT, args_dict_init_0 _, ?_⟩
  unfold Builtin.«dict.__init__»
  refine wpAny_bind ?_
  unfold Builtin.Dict.selfAndRest
  refine wpAny_bind (wpAny_notOrdered_dict hT ?_)
  show wpAny _ _ (pure (s.heap.objs.size, ([] : List Value))) _ _ _
  refine wpAny_pure ?_
  show wpAny _ _ (Builtin.Dict.addKeywords s.heap.objs.size [] >>= _) _ _ _
  exact wpAny_bind (wpAny_pure (wpAny_pure ⟨rfl, h⟩))
end

inductive All2 {α β : Type} (R : α → β → Prop) : List α → List β → Prop
  | nil : All2 R [] []
  | cons {a : α} {b : β} {l : List α} {m : List β} : R a b → All2 R l m → All2 R (a :: l) (b :: m)
/-- keys without repeats, in order of first place -/
noncomputable def dedup {K : Type} [DecidableEq K] (acc : List K) : List K → List K
  | [] => acc
  | k :: r => dedup (if k ∈ acc then acc else acc ++ [k]) r
section
variable {prog : Program} {w : World} {K : Type} [DecidableEq K] {knd : KeyKind prog w K} {A : Around} {E : Value → Shared → Prop} {s : Shared}
noncomputable def noneKvs (ks : List K) : List (K × Value) := ks.map fun k => (k, .none)
theorem stored_none (ks : List K) (k : K) : stored (noneKvs ks) k .none = noneKvs (if k ∈ ks then ks else ks ++ [k]) := by
  unfold stored
  by_cases h : k ∈ ks
  · rw [if_pos h, if_pos]
    · unfold noneKvs
      rw [List.map_map]
      refine List.map_congr_left fun x _ => ?_
      dsimp only [Function.comp]
      split <;> rfl
    · rw [List.any_eq_true]
      exact ⟨(k, .none), List.mem_map.mpr ⟨k, h, rfl⟩, by simp⟩
  · rw [if_neg h, if_neg]
    · simp [noneKvs]
    · rw [List.any_eq_true]
      rintro ⟨x, hx, e⟩
      obtain ⟨y, hy, rfl⟩ := List.mem_map.mp hx
      exact h (of_decide_eq_true e ▸ hy)
theorem All2.length {α β : Type} {R : α → β → Prop} : ∀ {l : List α} {m : List β}, All2 R l m → l.length = m.length
  | _, _, .nil => rfl
  | _, _, .cons _ r => congrArg (· + 1) r.length
theorem forall2_at {α β : Type} {R : α → β → Prop} : ∀ {l : List α} {m : List β} {i : Nat} {a : α}, All2 R l m → l[i]? = some a → ∃ b, m[i]? = some b ∧ R a b
  | _, _, i, a, .nil, h => by simp at h
  | _, _, 0, a, .cons (b := y) r _, h => by simp at h; subst h; exact ⟨y, rfl, r⟩
  | _, _, i + 1, a, .cons _ r, h => by simpa using forall2_at r (by simpa using h)
theorem fk_loop {d I l : Addr} {items : Array Value} {ks : List K} (hh : A.handled = none) (hks : All2 (fun v k => knd.is k v = true) items.toList ks) (hI : d ≠ I) (hl : d ≠ l) (hne : l ≠ I) (hsz : items.size ≤ lim) :
    ∀ (n i : Nat) (acc : List K) (s : Shared) (R : Result → Shared → Prop), items.size - i = n → i ≤ items.size → acc.length ≤ i → s.heap.DictOf knd d (noneKvs acc) → s.heap.IsListIter I l i → s.heap.IsList l items →
      (∀ h' tk, h'.DictOf knd d (noneKvs (dedup acc (ks.drop i))) → (∀ b o, b ≠ d → b ≠ I → s.heap.get? b = some o → h'.get? b = some o) → R (.ok (.ret (.ref d))) { s with heap := h', toks := tk }) →
      codeAny (model prog w) A (.builtin "dict.fromkeys.loop" ⟨[.ref d, .ref I, .none], []⟩) R s := by
  intro n
  induction n with
  | zero =>
    intro i acc s R hn hi ha hd hit hL hR
    have W := Walks.list (prog := prog) (w := w) (A := A.under (.builtin "dict.fromkeys.loop" ⟨[.ref d, .ref I, .none], []⟩)) (by rw [Around.under_plainId plain_fkl]; exact hh) I l hne items
    refine codeAny_builtin entry_fkl ?_
    unfold Builtin.«dict.fromkeys.loop»
    dsimp only
    have ei : i = items.size := by omega
    subst ei
    refine wpAny_bind (W.done s _ _ ⟨hit, hL⟩ fun h' tk hk => ?_)
    dsimp only
    refine wpAny_pure (hR h' tk ?_ fun b o h1 h2 e => hk b o (by simpa using h2) e)
    have : ks.drop items.size = [] := by rw [List.drop_eq_nil_iff, ← hks.length]; simp
    rw [this]
    obtain ⟨o, es, ep, ho, r⟩ := hd
    exact ⟨o, es, ep, hk d o (by simpa using hI) ho, r⟩
  | succ n ih =>
    intro i acc s R hn hi ha hd hit hL hR
    have W := Walks.list (prog := prog) (w := w) (A := A.under (.builtin "dict.fromkeys.loop" ⟨[.ref d, .ref I, .none], []⟩)) (by rw [Around.under_plainId plain_fkl]; exact hh) I l hne items
    refine codeAny_builtin entry_fkl ?_
    unfold Builtin.«dict.fromkeys.loop»
    dsimp only
    have hlt : i < items.size := by omega
    refine wpAny_bind (W.item i s _ _ hlt ⟨hit, hL⟩ fun v h' tk hv hst hk => ?_)
    obtain ⟨hit', hL'⟩ := hst
    obtain ⟨k, hk1, hk2⟩ : ∃ k, ks[i]? = some k ∧ knd.is k v = true := forall2_at (i := i) (a := v) hks (by simpa using hv)
    have hd' : h'.DictOf knd d (noneKvs acc) := by
      obtain ⟨o, es, ep, ho, r⟩ := hd
      exact ⟨o, es, ep, hk d o (by simpa using hI) ho, r⟩
    dsimp only
    refine wpAny_bind (wpAny_typeOf hd'.typeIs ?_)
    rw [if_pos (by decide)]
    refine wpAny_bind (wpAny_of_eq (a := d) rfl (wpAny_bind (wpAny_holding ?_)))
    have l1 := lim_line
    refine wpAny_dictSet_pairs (s := { s with heap := h', toks := tk }) hk2 hd' (fun h'' hd'' hs'' => ?_) (by simp [noneKvs]; omega)
    rw [stored_none] at hd''
    refine wpAny_pure ⟨Code.quiet_builtin _ (by decide +kernel), ?_⟩
    refine ih (i + 1) _ _ R (by omega) hlt ?_ hd'' (hit'.at fun o e => hs''.extBut I o (Ne.symm hI) e) (hL'.extBut hs''.extBut (Ne.symm hl)) fun h₃ tk₃ hd₃ hk₃ => ?_
    · split
      · omega
      · simp; omega
    · refine hR h₃ tk₃ ?_ fun b o h1 h2 e => hk₃ b o h1 h2 (hs''.extBut _ _ h1 (hk b o (by simpa using h2) e))
      have : ks.drop i = k :: ks.drop (i + 1) := by
        obtain ⟨hlt', e⟩ := List.getElem?_eq_some_iff.mp hk1
        rw [← e]; exact List.drop_eq_getElem_cons hlt'
      rw [this]; exact hd₃

theorem fk_body {l : Addr} {items : Array Value} {ks : List K} {Q : Value → Shared → Prop} (hh : A.handled = none) (hks : All2 (fun v k => knd.is k v = true) items.toList ks) (hsz : items.size ≤ lim) (hL : s.heap.IsList l items)
    (h : ∀ h' tk, h'.DictOf knd s.heap.objs.size (noneKvs (dedup [] ks)) → (∀ b o, s.heap.get? b = some o → h'.get? b = some o) → Q (.ref s.heap.objs.size) { s with heap := h', toks := tk }) {u : Addr} (hu : s.heap.get? u = some boundFk) :
    wpAny (model prog w) A (call (.ref u) [.ref l]) Q E s := by
  refine wpAny_call (codeAny_of_tree ?_)
  show wpAny _ A.in1 (callAny (.ref u) ⟨[.ref l], []⟩) _ _ s
  simp only [callAny]
  refine wpAny_bind (wpAny_load hu ?_)
  simp only [boundFk, show (Value.type "builtin_function_or_method" == Value.type "method" || Value.type "builtin_function_or_method" == Value.type "builtin_function_or_method" || Value.type "builtin_function_or_method" == Value.type "method-wrapper") = true by decide, if_true]
  refine then_way (by decide) ?_
  refine wpAny_bind (wpAny_of_eq (a := ()) check_fk ?_)
  refine wpAny_bind (wpAny_pure (wpAny_pure ?_))
  refine ⟨quiet_fk, codeAny_builtin entry_fk ?_⟩
  unfold Builtin.«dict.fromkeys»
  dsimp only
  refine wpAny_bind (wpAny_of_eq (a := true) type_dictT ?_)
  refine else_way rfl ?_
  refine wpAny_bind (wpAny_of_eq (a := true) F.kt_sub_dict ?_)
  refine else_way rfl ?_
  refine else_way rfl ?_
  refine wpAny_bind (wpAny_rule (wpAny_bind (wpAny_pure ?_)))
  show wpAny _ _ (call (.type "dict") [] >>= _) _ _ _
  refine wpAny_bind (call_dict0 ?_)
  refine wpAny_holding ?_
  have hnew : (s.heap.push { cls := .type "dict", data := .dict #[] }).DictOf knd s.heap.objs.size (noneKvs []) := Heap.DictOf.new s.heap
  have hT : Shared.TypeIs { s with heap := s.heap.push { cls := .type "dict", data := .dict #[] } } (.ref s.heap.objs.size) "dict" := hnew.typeIs
  have hL1 := hL.push { cls := .type "dict", data := .dict #[] }
  refine wpAny_bind (wpAny_typeOf hL1.typeIs ?_)
  refine wpAny_bind (wpAny_typeOf hT ?_)
  refine else_way rfl ?_
  refine wpAny_bind (wpAny_typeOf hT ?_)
  refine else_way rfl ?_
  refine wpAny_bind (wpAny_pyIter_list hL1 ?_)
  refine wpAny_pure ⟨Code.quiet_builtin _ (by decide +kernel), ?_⟩
  obtain ⟨ol, hol, _⟩ := id hL
  have hlt := Heap.lt_size hol
  have K2 : ∀ (b : Addr) (o : Obj), s.heap.get? b = some o → ((s.heap.push { cls := .type "dict", data := .dict #[] }).push { cls := .type "list_iterator", data := .fields #[.ref l, .int 0 0] }).get? b = some o := fun b o e => Heap.get?_push_of_some _ (Heap.get?_push_of_some _ e)
  have hsz2 := Heap.size_push s.heap { cls := .type "dict", data := .dict #[] }
  refine fk_loop (ks := ks) (items := items) (I := (s.heap.push { cls := .type "dict", data := .dict #[] }).objs.size) (l := l) hh hks ?_ ?_ ?_ hsz _ 0 [] _ _ rfl (Nat.zero_le _) (Nat.zero_le _) (hnew.push _) ?_ (hL1.push _) ?_
  · rw [hsz2]; exact Nat.ne_of_lt (Nat.lt_succ_self _)
  · exact Nat.ne_of_gt hlt
  · rw [hsz2]; exact Nat.ne_of_lt (Nat.lt_succ_of_lt hlt)
  · exact ⟨_, Heap.get?_push_size _ rfl, rfl, rfl⟩
  · intro h' tk hd hk
    refine h h' tk hd fun b o e => hk b o ?_ ?_ (K2 b o e)
    · exact Nat.ne_of_lt (Heap.lt_size e)
    · rw [hsz2]; exact Nat.ne_of_lt (Nat.lt_succ_of_lt (Heap.lt_size e))
end

section
variable {prog : Program} {w : World} {M : Model} {A : Around} {E : Value → Shared → Prop} {s : Shared}
theorem callWith_fields {pos : Pos} {u : Addr} {first : List Value} {args : List (Bool × Sem Value)} {Q : Value → Shared → Prop} (hplain : args.any (·.1) = false)
    (h : wpAny M A (evalArgs (.ref u) true args []) (fun x s₁ => s₁.heap.get? u = some boundFk ∧ wpAny M A (call (.ref u) (first ++ x.pos) x.kw) Q E s₁) E s) : wpAny M A (callWith pos (.ref u) first args []) Q E s := by
  unfold callWith
  refine wpAny_bind (wpAny_holding (wpAny_mono h (fun x s₁ h₁ => wpAny_bind (wpAny_standAt ?_)) fun _ _ x => x))
  obtain ⟨ho, hcall⟩ := h₁
  simp only [hplain, List.any_nil, Bool.or_false]
  refine wpAny_bind (m := keeperOf (.ref u)) ?_
  unfold keeperOf
  refine wpAny_bind (wpAny_load ho ?_)
  simp only [boundFk, show (Value.type "builtin_function_or_method" != Value.type "method") = true by decide, show (Value.type "builtin_function_or_method" == Value.type "builtin_function_or_method" || Value.type "builtin_function_or_method" == Value.type "method-wrapper") = true by decide, if_true]
  refine wpAny_pure ?_
  exact wpAny_bind (wpAny_mono hcall (fun r s₂ hr => wpAny_bind (wpAny_holding (wpAny_point (wpAny_pure hr)))) fun _ _ x => x)
theorem callWith_fk {pos : Pos} {u : Addr} {first : List Value} {env : Env} {e : Expr} {rest : List Expr} {Q : Value → Shared → Prop}
    (h : wpAny M A (spliced (backTo pos (starEach (e :: rest) env))) (fun vs s₁ => s₁.heap.get? u = some boundFk ∧ wpAny M A (call (.ref u) (first ++ vs)) Q E s₁) E s)
    (he : starEach (e :: rest) env = (false, eval e env) :: starEach rest env) (hplain : (backTo pos (starEach rest env)).any (·.1) = false) :
    wpAny M A (callWith pos (.ref u) first (backTo pos (starEach (e :: rest) env)) []) Q E s := by
  rw [he] at h ⊢
  refine callWith_fields (by show (false || (backTo pos (starEach rest env)).any (·.1)) = false; rw [hplain]; rfl) ?_
  exact evalArgs_plain h

variable {hb : Heap} {k : Nat} {Γ Γ' : Lay} {sc csc : Scope} {mg mb : Str → Option Value}
noncomputable def intsOf : List PyData → Option (List Int)
  | [] => some []
  | .int x :: r => match intsOf r with
    | some l => some (x :: l)
    | none => none
  | _ :: _ => none
end
end Mine


namespace Mine
section
variable {prog : Program} {w : World} {hb : Heap} {k j : Nat} {Γ Γ' : Lay} {sc csc : Scope} {mg mb : Str → Option Value}
theorem inter {env : Env} {sc : Scope} (h : env.scope = sc) (hk : (sc.kind == .module) = false) : interactive env = false := by
  unfold interactive; rw [h, hk]; rfl
theorem CallOk.mono {fv : Value} {g : List PyData → Option PyData} (h : CallOk prog w hb k fv g) (hj : k ≤ j) : CallOk prog w hb j fv g :=
  fun A Y s vs ds d Q E R => h A Y s vs ds d Q E (R.le hj)
theorem S_assign_tup {f : Rho → Option PyData} {b : PyData → Rho → Option Rho} {elts : List Expr} {n : Nat} {tp pos : Pos} {value : Expr} (h : SimE prog w hb k Γ sc f value) (ht : SimA prog w hb k Γ sc b (.Tuple elts n tp))
    (hs : ∀ env : Env, env.scope = sc → swapsWithSole [.Tuple elts n tp] value pos.line env = pure false) (hw : ∀ env : Env, env.scope = sc → swappedStores [.Tuple elts n tp] value env = pure none) : Sim1 prog w hb k Γ sc (asg f b) (.Assign [.Tuple elts n tp] value pos) := by
  intro env O A Y X ρ s o Q E R S hf q
  obtain ⟨d, ρ', h1, h2, rfl⟩ := asg_some hf
  refine Assign_Tuple (h env O A Y X ρ s d _ E R S h1 fun v s₁ K₁ r => ?_) (hs env O.scope) (hw env O.scope)
  exact ht env O A Y X ρ ρ' s₁ v d _ E R (S.keeps K₁) r h2 fun s' X' st S' => q .next s' ⟨rfl, X', (Step.of_kp K₁).trans st, S'⟩
/-- `try` whose body raises nothing -/
theorem S_try {f g : Rho → Option Out} {body orelse : List Stmt} {h₀ : ExceptHandler} {hs : List ExceptHandler} {pos : Pos} (hf : SimS prog w hb k Γ sc f body) (hg : SimS prog w hb k Γ sc g orelse) : Sim1 prog w hb k Γ sc (seqS f g) (.Try body (h₀ :: hs) orelse [] pos) := by
  intro env O A Y X ρ s o Q E R S h q
  unfold seqS at h
  refine wpAny_Try_except ?_
  split at h
  · rename_i ρ' e
    refine hf env O A Y X ρ s _ _ _ R S e fun fl s₁ p => ?_
    obtain ⟨rfl, X', st, S'⟩ := p
    refine hg env O A Y X' ρ' s₁ o Q E R S' h fun fl s₂ p₂ => q fl s₂ ?_
    cases o with
    | next ρ₂ => obtain ⟨e2, X2, st2, S2⟩ := p₂; exact ⟨e2, X2, st.trans st2, S2⟩
    | brk ρ₂ => obtain ⟨e2, X2, st2, S2⟩ := p₂; exact ⟨e2, X2, st.trans st2, S2⟩
    | cont ρ₂ => obtain ⟨e2, X2, st2, S2⟩ := p₂; exact ⟨e2, X2, st.trans st2, S2⟩
    | ret d => obtain ⟨v, X2, e2, st2, r⟩ := p₂; exact ⟨v, X2, e2, st.trans st2, r⟩
  · rename_i hn
    refine hf env O A Y X ρ s o _ _ R S h fun fl s₁ p => ?_
    cases o with
    | next ρ₂ => exact absurd h (hn ρ₂)
    | brk ρ₂ => obtain ⟨rfl, r⟩ := p; exact q _ s₁ ⟨rfl, r⟩
    | cont ρ₂ => obtain ⟨rfl, r⟩ := p; exact q _ s₁ ⟨rfl, r⟩
    | ret d => obtain ⟨v, X2, rfl, r⟩ := p; exact q _ s₁ ⟨v, X2, rfl, r⟩
end
end Mine


namespace Mine
section
variable {prog : Program} {w : World} {A : Around} {E : Value → Shared → Prop} {s : Shared}
theorem hint_dict {d : Addr} {Q : Bool → Shared → Prop} (hT : s.TypeIs (.ref d) "dict") (h : Q false s) : wpAny (model prog w) A (Builtin.List.listLengthHint (.ref d)) Q E s := by
  unfold Builtin.List.listLengthHint
  refine wpAny_bind (wpAny_specialOf hT PySem.F.slot_dict_len.lookup ?_)
  generalize hid : ("dict.__len__" : String) = id0
  wp_delta
  rw [show splitId id0 = some ("dict", "__len__") from by subst hid; decide +kernel]
  subst hid
  refine wpAny_bind (wpAny_isInstance (T := "dict") (b := true) hT (by rw [isSubtype_type]; kernel_rfl) ?_)
  refine wpAny_ite_split (fun hab => absurd hab (by decide)) (fun _ => ?_)
  refine wpAny_ite_split (fun _ => ?_) (fun hab => absurd (by decide +kernel) hab)
  exact wpAny_bind (wpAny_typeOf hT (wpAny_pure h))
/-- `list(d)` of a table -/
theorem list_dict {K : Type} [DecidableEq K] {knd : PySem.KeyKind prog w K} {d : Addr} {kvs : List (K × Value)} {ep : Nat} {Q : Value → Shared → Prop} (lo : (d == sysModules) = false) (hh : A.handled = none) (hm : s.heap.DictAt knd d kvs ep) (hn : kvs.length ≤ sizeLine)
    (hQ : ∀ h' tk acc' c', (∀ b o, s.heap.get? b = some o → h'.get? b = some o) → h'.get? s.heap.objs.size = some { cls := .type "list", data := .seq acc' c' } → ItemsOf (fun i v => ∃ k x, kvs[i]? = some (k, x) ∧ knd.is k v = true) acc' kvs.length → Q (.ref s.heap.objs.size) { s with heap := h', toks := tk }) :
    wpAny (model prog w) A (call (.type "list") [.ref d]) Q E s := by
  have hds : d < s.heap.objs.size := hm.lt_size
  refine callType_codes (Q₁ := fun obj s₁ => obj = .ref s.heap.objs.size ∧ s₁ = { s with heap := s.heap.push { cls := .type "list", data := .seq #[] } }) PySem.F.called_list (PySem.F.typeCall_list_1 _) PySem.F.entry_list_init
    (code_list_new _ ⟨rfl, rfl⟩) fun obj s₁ h₁ => ?_
  obtain ⟨rfl, rfl⟩ := h₁
  have hS : (s.heap.push { cls := .type "list", data := .seq #[] }).get? s.heap.objs.size = some { cls := .type "list", data := .seq #[] } := Heap.get?_push_size _ rfl
  refine ⟨⟨_, hS, rfl⟩, PySem.F.args_list_init_2 _ _, ?_⟩
  show wpAny _ _ (Builtin.List.listItems (.ref s.heap.objs.size) >>= _) _ _ _
  refine wpAny_bind ?_
  unfold Builtin.List.listItems
  refine wpAny_bind (wpAny_seqItems hS rfl (wpAny_pure ?_))
  show wpAny _ _ (updateSeq s.heap.objs.size (fun _ => #[]) >>= fun _ => letGo (#[] : Array Value).toList.reverse >>= fun _ => Builtin.List.listExtendWith (.ref s.heap.objs.size) (.ref d) .none) _ _ _
  refine wpAny_bind (wpAny_updateSeq hS rfl ?_)
  have hS₂ := Heap.get?_update_self (Obj.mapSeq (fun _ => (#[] : Array Value))) hS rfl
  refine wpAny_bind (wpAny_letGo ?_)
  obtain ⟨h₂, e₂⟩ : ∃ h₂, h₂ = (s.heap.push { cls := .type "list", data := .seq #[] }).update s.heap.objs.size (Obj.mapSeq (fun _ => (#[] : Array Value))) := ⟨_, rfl⟩
  show wpAny _ _ _ _ _ { s with heap := (s.heap.push { cls := .type "list", data := .seq #[] }).update s.heap.objs.size (Obj.mapSeq (fun _ => (#[] : Array Value))) }
  rw [← e₂] at hS₂ ⊢
  have old₂ : ∀ b o, s.heap.get? b = some o → h₂.get? b = some o := fun b o e => by
    rw [e₂]; exact (Heap.get?_update_other _ _ (Nat.ne_of_gt (Heap.lt_size e))).trans (Heap.get?_push_of_some _ e)
  have hm₂ : h₂.DictAt knd d kvs ep := hm.keep old₂
  have hT₂ : Shared.TypeIs { s with heap := h₂ } (.ref d) "dict" := hm₂.dictOf.typeIs
  have hSlt : s.heap.objs.size < h₂.objs.size := Heap.lt_size hS₂
  unfold Builtin.List.listExtendWith
  refine wpAny_bind (wpAny_typeOf hT₂ ?_)
  have h1 : Builtin.List.listSameRef (.ref s.heap.objs.size) (.ref d) = false := by simp [Builtin.List.listSameRef, Nat.ne_of_gt hds]
  rw [if_neg (by rw [h1]; decide)]
  refine wpAny_bind (wpAny_pyIter_dict lo hm₂ ?_)
  have hm₃ := hm₂.push { cls := .type "dict_keyiterator", data := .fields #[.ref d, .int 0 0, .int kvs.length 0, .int ep 0] }
  refine wpAny_bind (wpAny_holding (hint_dict hm₃.dictOf.typeIs ?_))
  have hdI : d ≠ h₂.objs.size := Nat.ne_of_lt hm₂.lt_size
  have hSI : s.heap.objs.size ≠ h₂.objs.size := Nat.ne_of_lt hSlt
  have hSf : s.heap.objs.size ∉ [h₂.objs.size, d] := by simp [hSI, Nat.ne_of_gt hds]
  have W := Walks.dictKeys (prog := prog) (w := w) (knd := knd) (A := A.in1.in1) hh h₂.objs.size d hdI kvs ep
  have hS₃ : (h₂.push { cls := .type "dict_keyiterator", data := .fields #[.ref d, .int 0 0, .int kvs.length 0, .int ep 0] }).get? s.heap.objs.size = _ := Heap.get?_push_of_some _ hS₂
  refine wpAny_ite_split (fun _ => ?_) (fun hne => absurd (by decide) hne)
  refine wpAny_bind (wpAny_rule ?_)
  refine wpAny_bind ?_
  show wpAny _ _ (updateSeq s.heap.objs.size (·.push .none) >>= fun _ => updateSeq s.heap.objs.size (·.pop)) _ _ _
  refine wpAny_bind (wpAny_updateSeq hS₃ rfl ?_)
  have hS₄ := Heap.get?_update_self (Obj.mapSeq (·.push Value.none)) hS₃ rfl
  refine wpAny_updateSeq (hz := by seq_fits) hS₄ rfl ?_
  have hS₅ := Heap.get?_update_self (Obj.mapSeq (·.pop)) hS₄ rfl
  have kp : ∀ b o, b ≠ s.heap.objs.size → (h₂.push { cls := .type "dict_keyiterator", data := .fields #[.ref d, .int 0 0, .int kvs.length 0, .int ep 0] }).get? b = some o → (((h₂.push { cls := .type "dict_keyiterator", data := .fields #[.ref d, .int 0 0, .int kvs.length 0, .int ep 0] }).update s.heap.objs.size (Obj.mapSeq (·.push Value.none))).update s.heap.objs.size (Obj.mapSeq (·.pop))).get? b = some o := fun b o hb e =>
    (Heap.get?_update_other _ _ (Ne.symm hb)).trans ((Heap.get?_update_other _ _ (Ne.symm hb)).trans e)
  have st := W.frame 0 _ (((h₂.push { cls := .type "dict_keyiterator", data := .fields #[.ref d, .int 0 0, .int kvs.length 0, .int ep 0] }).update s.heap.objs.size (Obj.mapSeq (·.push Value.none))).update s.heap.objs.size (Obj.mapSeq (·.pop))) ⟨⟨_, Heap.get?_push_size _ rfl, rfl, rfl⟩, hm₃⟩ fun b hb o e => kp b o (fun q => hSf (q ▸ hb)) e
  refine wpAny_pure ⟨plainId_quiet PySem.F.plain_extend_loop _, codeAny_extend_loopS W.toS hn s.heap.objs.size hSf .none kvs.length 0 _ #[] _ rfl (Nat.zero_le _) st hS₅ (ItemsOf.nil _) fun s' acc' c' hmv hS' hacc => ?_⟩
  rw [Moved.eq_with hmv]
  refine ⟨rfl, hQ s'.heap s'.toks acc' c' (fun b o e => hmv.heap b o (fun hmem => ?_) (kp b o (Nat.ne_of_lt (Heap.lt_size e)) (Heap.get?_push_of_some _ (old₂ b o e)))) hS' hacc⟩
  simp only [List.mem_cons, List.not_mem_nil, or_false] at hmem
  rcases hmem with rfl | rfl
  · exact absurd (Heap.lt_size e) (Nat.lt_irrefl _)
  · exact absurd (Heap.lt_size (old₂ _ _ e)) (Nat.lt_irrefl _)
end
section
variable {prog : Program} {w : World} {hb : Heap} {k j : Nat} {Γ Γ' : Lay} {sc csc : Scope} {mg mb : Str → Option Value}
/-- what is never reached -/
theorem T_none {t : Env → Sem Flow} : SimT prog w hb k Γ sc (fun _ => none) t := fun env O A Y X ρ s o Q E R S h q => by cases h
theorem E_none {e : Expr} : SimE prog w hb k Γ sc (fun _ => none) e := fun env O A Y X ρ s o Q E R S h q => by cases h

/-- keys as data -/
structure KT {K : Type} [DecidableEq K] (knd : PySem.KeyKind prog w K) (toD : K → PyData) : Prop where
  to : ∀ k v, knd.is k v = true → ∀ X h, Rv X h v (toD k)
  of : ∀ k v X h, Rv X h v (toD k) → knd.is k v = true
theorem KT_int : KT (intKind prog w) .int := ⟨fun k v h X h' => by obtain ⟨t, rfl⟩ := Value.isInt_shape h; exact .int _ _, fun k v X h r => by cases r; simp [intKind, Value.isInt]⟩
theorem KT_str : KT (PySem.strKind prog w) .str := ⟨fun k v h X h' => by obtain ⟨t, rfl⟩ := Value.isStrOf_shape h; exact .str _ _, fun k v X h r => by cases r; simp [PySem.strKind, Value.isStrOf]⟩
theorem KT.all {K : Type} [DecidableEq K] {knd : PySem.KeyKind prog w K} {toD : K → PyData} (T : KT knd toD) {X : Addr → Prop} {h : Heap} : ∀ {ks : List K} {vs : List Value}, Rvs X h vs (ks.map toD) → All2 (fun v k => knd.is k v = true) vs ks
  | [], _, r => by cases r; exact .nil
  | k :: ks, _, r => by cases r with | cons a b => exact .cons (T.of _ _ _ _ a) (T.all b)
/-- a call that gives a table of keys -/
noncomputable def CallDD (prog : Program) (w : World) (hb : Heap) (k : Nat) (fv : Value) : Prop :=
  ∀ {K : Type} [DecidableEq K] (knd : PySem.KeyKind prog w K) (toD : K → PyData), KT knd toD → ∀ (A : Around) (Y : Addr → Prop) (s : Shared) (v : Value) (ks : List K) (Q : Value → Shared → Prop) (E : Value → Shared → Prop), Room k A → (∀ a o, hb.get? a = some o → s.heap.get? a = some o) →
    (∀ a, Y a → ∃ o, s.heap.get? a = some o) → (∀ a, Y a → hb.get? a = none) → Rv Y s.heap v (.list (ks.map toD)) → ks.length ≤ lim →
    (∀ a s', Kp s s' → (a == sysModules) = false → s'.heap.DictOf knd a (noneKvs (dedup [] ks)) → Q (.ref a) s') → wpAny (model prog w) A (call fv [v]) Q E s
theorem ints_map : ∀ {ds : List PyData} {ks : List Int}, intsOf ds = some ks → ds = ks.map .int
  | [], _, h => by cases h; rfl
  | d :: ds, ks, h => by
    unfold intsOf at h
    split at h
    · rename_i e; cases e
    · rename_i x r e
      cases e
      split at h
      · rename_i l el
        cases h
        rw [ints_map el]; rfl
      · cases h
    · cases h
theorem strs_map : ∀ {ds : List PyData} {ks : List Str}, strsOf ds = some ks → ds = ks.map .str
  | [], _, h => by cases h; rfl
  | d :: ds, ks, h => by
    unfold strsOf at h
    split at h
    · rename_i e; cases e
    · rename_i x r e
      cases e
      split at h
      · rename_i l el
        cases h
        rw [strs_map el]; rfl
      · cases h
    · cases h
noncomputable def listDD (f : Rho → Option PyData) (ρ : Rho) : Option PyData := match f ρ with
  | some (.list ds) => if ds.length ≤ lim then (match intsOf ds with
    | some ks => some (.list ((dedup [] ks).map .int))
    | none => none) else none
  | _ => none
theorem dedup_length {K : Type} [DecidableEq K] : ∀ (ks acc : List K), (dedup acc ks).length ≤ acc.length + ks.length
  | [], acc => Nat.le_refl _
  | k :: ks, acc => by
    unfold dedup
    refine Nat.le_trans (dedup_length ks _) ?_
    split
    · simp only [List.length_cons]; omega
    · simp only [List.length_append, List.length_cons, List.length_nil]; omega
theorem R_listDD {f : Rho → Option PyData} {e : Expr} {p p2 cp pos : Pos} {a : Addr} {o : Obj} {fd : FuncData} (G : GlobOk mg mb hb) (hk : isGlob sc "list" = true) (hn : mg "list" = none) (hv : mb "list" = some (.type "list")) (hk2 : isGlob sc "_deduplicate" = true) (hv2 : mg "_deduplicate" = some (.ref a))
    (ho : hb.get? a = some o) (hd : o.data = .func fd) (hc : CallDD prog w hb k (.ref a)) (h : SimE prog w hb k Γ sc f e) (he : ∀ env, starEach [e] env = (false, eval e env) :: starEach [] env)
    (he2 : ∀ env, starEach [Expr.Call (.Name "_deduplicate" p2) [e] [] cp] env = (false, eval (Expr.Call (.Name "_deduplicate" p2) [e] [] cp) env) :: starEach [] env) :
    SimE prog w hb k Γ sc (listDD f) (.Call (.Name "list" p) [.Call (.Name "_deduplicate" p2) [e] [] cp] [] pos) := by
  intro env O A Y X ρ s d Q E R S hf q
  unfold listDD at hf
  split at hf
  case h_2 => cases hf
  rename_i ds ef
  split at hf
  case isFalse => cases hf
  rename_i hl
  split at hf
  case h_2 => cases hf
  rename_i ks ek
  cases hf
  have em := ints_map ek
  subst em
  refine Call_ (load_blt G O S.base hk hn hv ?_) rfl
  refine PyProof.Rows.callWith_type1 (wpAny_items_cons (Call_ (load_glob G O S.base hk2 hv2 ?_) rfl) (he2 env)) (he2 env) rfl
  have hm : ∀ Q' : List Value → Shared → Prop, (∀ v s₁, Kp s s₁ → Rv X s₁.heap v (.list (ks.map .int)) → Q' [v] s₁) → wpAny (model prog w) A (spliced (backTo cp (starEach [e] env))) Q' E s :=
    fun Q' hQ => wpAny_items_cons (h env O A Y X ρ s _ _ E R S ef fun v s₁ K₁ r₁ => wpAny_items_nil (hQ v s₁ K₁ r₁)) (he env)
  rw [he env] at hm ⊢
  refine callWith_of (P := fun h => h.get? a = some o) rfl (fun h e => keeper_fn e hd) ?_
  refine evalArgs_plain (hm _ fun v s₁ K₁ r₁ => ?_)
  have S₁ := S.keeps K₁
  refine ⟨S₁.base _ _ ho, ?_⟩
  refine hc (intKind prog w) .int KT_int A X s₁ v ks _ _ R S₁.base S₁.dom S₁.old r₁ (by simpa using hl) fun b s₂ K₂ lo hD => ?_
  refine wpAny_items_nil ?_
  have S₂ := S₁.keeps K₂
  obtain ⟨ep, hat⟩ := hD.dictAt
  have l1 := lim_line
  have hlen : (noneKvs (dedup [] ks)).length ≤ lim := by
    unfold noneKvs
    rw [List.length_map]
    have := dedup_length ks []
    simp at this hl
    omega
  refine list_dict (knd := intKind prog w) (kvs := noneKvs (dedup [] ks)) (ep := ep) lo R.1 hat (by omega) fun h' tk acc' c' hk' hS' hacc => ?_
  refine q _ _ ((K₁.trans K₂).trans (Kp.mk' hk')) (.list (fun x => ?_) hS' rfl rfl ?_)
  · obtain ⟨o', e'⟩ := S₂.dom _ x; exact absurd (Heap.lt_size e') (Nat.lt_irrefl _)
  · have key : ∀ (l : List Value) (ks : List Int), l.length = ks.length → (∀ (i : Nat) (v : Value), l[i]? = some v → ∃ k, ks[i]? = some k ∧ (intKind prog w).is k v = true) → Rvs X h' l (ks.map .int) := by
      intro l
      induction l with
      | nil => intro ks e _; cases ks with
        | nil => exact .nil
        | cons => cases e
      | cons v l ih =>
        intro ks e hx
        cases ks with
        | nil => cases e
        | cons k ks =>
          obtain ⟨k', e1, e2⟩ := hx 0 v rfl
          simp at e1; subst e1
          exact .cons (KT_int.to _ _ e2 _ _) (ih ks (by simpa using e) fun i v hv => by simpa using hx (i + 1) v (by simpa using hv))
    refine key _ _ ?_ fun i v hv => ?_
    · have := hacc.1
      simp [noneKvs] at this
      simp [this]
    · obtain ⟨k, x, hx, hk⟩ := hacc.2 i v (by simpa using hv)
      simp [noneKvs] at hx
      obtain ⟨_, hx, rfl, _⟩ := hx
      exact ⟨_, hx, hk⟩
end
end Mine


namespace Mine
section
variable {prog : Program} {w : World} {hb : Heap} {k j : Nat} {Γ Γ' : Lay} {sc csc : Scope} {mg mb : Str → Option Value}

theorem codeAny_call_cellsB {A : Around} {s : Shared} {R : Result → Shared → Prop} {a : Addr} {o : Obj} {fd : FuncData} {body : List Stmt} {vals : List Value}
    (hroom : A.depth < recursionLimit) (ho : s.heap.get? a = some o) (hdata : o.data = .func fd) (hlim : s.heap.NoLimit) (hcd : s.heap.CodeRec fd.code fd.qualname)
    (hbody : fd.body = .stmts body) (hclo : fd.closure = []) (hco : fd.scope.isCoroutine = false) (hgen : fd.scope.isGenerator = false) (hk : fd.scope.kind = .function)
    (h : wpAny (model prog w) A.in1 (bindArgs fd ⟨vals, []⟩) (fun binds s' => Kp s s' ∧
      (∀ x ∈ binds, fd.scope.names.lookup x.1 = some .local ∨ (fd.scope.names.lookup x.1 = some .cell ∧ ((cellsFrom (s'.heap.objs.size + 1) fd.scope.names []).lookup x.1).isSome = true)) ∧
      ∀ s₁, InCallC s' (callEnvC fd s'.heap.objs.size a).locals (bindL (callEnvC fd s'.heap.objs.size a).kindOf binds fun _ => none) (callEnvC fd s'.heap.objs.size a).cells
        (bindC (callEnvC fd s'.heap.objs.size a).kindOf binds fun _ => none) s₁ →
      wpAny (model prog w) (A.deeper (callEnvC fd s'.heap.objs.size a)) (execs body (callEnvC fd s'.heap.objs.size a)) (fun f s' => R (.ok (.ret (match f with | .ret v => v | _ => .none))) s')
        (fun e s'' => wpAny (model prog w) (A.deeper (callEnvC fd s'.heap.objs.size a)) (leaving (callEnvC fd s'.heap.objs.size a) e) (fun _ s'' => R (.error e) s'') (fun e' s'' => R (.error e') s'') s'') s₁) (fun e s' => R (.error e) s') s) :
    codeAny (model prog w) A (.call (.ref a) ⟨vals, []⟩) R s := by
  refine codeAny_call_function hroom ho hdata hco hgen hbody hcd ?_
  rw [hclo]
  refine wpAny_mono h (fun binds s' h' => ?_) fun _ _ e => e
  obtain ⟨K, hkind, hx⟩ := h'
  refine wpAny_newFunctionEnv_cells hk hkind fun env he s'' x => ?_
  subst he
  exact ⟨(hlim.keeps K.get).keeps x.toInCall.keep, codeAny_func (hx s'' x)⟩

/-- how a call binds its arguments -/
noncomputable def BindOk (prog : Program) (w : World) (hb : Heap) (fd : FuncData) (ps : List Str) (g : List PyData → Option (List PyData)) : Prop :=
  ∀ (A : Around) (Y : Addr → Prop) (s : Shared) (vs : List Value) (ds ds' : List PyData) (Q : List (Str × Value) → Shared → Prop) (E : Value → Shared → Prop), (∀ a o, hb.get? a = some o → s.heap.get? a = some o) → (∀ a, Y a → ∃ o, s.heap.get? a = some o) →
    Rvs Y s.heap vs ds → g ds = some ds' → (∀ vals s', Kp s s' → Rvs Y s'.heap vals ds' → vals.length = ps.length → Q (ps.zip vals) s') → wpAny (model prog w) A (bindArgs fd ⟨vs, []⟩) Q E s

structure DefAt (hb : Heap) (a : Addr) (fd : FuncData) (sc : Scope) (body : List Stmt) : Prop where
  at' : ∃ o, hb.get? a = some o ∧ o.data = .func fd
  lim : hb.NoLimit
  code : hb.CodeRec fd.code fd.qualname
  body : fd.body = .stmts body
  clo : fd.closure = []
  gl : fd.globals = mainGlobals
  bl : fd.builtins = builtinsNs
  scp : fd.scope = sc
  co : sc.isCoroutine = false
  gen : sc.isGenerator = false

theorem call_enter {a : Addr} {fd : FuncData} {ps : List Str} {body : List Stmt} {g : List PyData → Option (List PyData)} (D : DefAt hb a fd sc body) (hbind : BindOk prog w hb fd ps g) (hok : defOk Γ sc ps = true)
    {A : Around} {Y : Addr → Prop} {s : Shared} {vs : List Value} {ds ds' : List PyData} {Q E : Value → Shared → Prop} (R : Room (k + 1) A) (hbase : ∀ a o, hb.get? a = some o → s.heap.get? a = some o) (hY : ∀ a, Y a → ∃ o, s.heap.get? a = some o) (hYo : ∀ a, Y a → hb.get? a = none)
    (r : Rvs Y s.heap vs ds) (hg : g ds = some ds')
    (h : ∀ (env : Env) (X : Addr → Prop) (s₁ : Shared) (A' : Around) (E' : Value → Shared → Prop), EnvOk hb sc env → Room k A' → St hb Γ env Y X (rho0 Γ.length ds') s₁ → Kp s s₁ → (∀ b, X b → ¬ Y b → s.heap.get? b = none) →
      wpAny (model prog w) A' (execs body env) (fun f s' => Q (match f with | .ret v => v | _ => .none) s') E' s₁) : wpAny (model prog w) A (call (.ref a) vs) Q E s := by
  have F := defOk_facts hok
  obtain ⟨o, ho, hd⟩ := D.at'
  have hsc := D.scp
  refine wpAny_call (codeAny_call_cellsB (body := body) (by have := R.2.1; omega) (hbase _ _ ho) hd (D.lim.keeps hbase) (D.code.keeps hbase) D.body D.clo (by rw [hsc]; exact D.co) (by rw [hsc]; exact D.gen) (by rw [hsc]; exact F.kind) ?_)
  refine hbind _ Y s vs ds ds' _ _ hbase hY r hg fun vals s' K r' hlen => ⟨K, ?_, fun s₁ I => ?_⟩
  · intro x hx
    rw [hsc]
    have hp : x.1 ∈ ps := (List.of_mem_zip hx).1
    have hm : (x.1, Fl.loc) ∈ Γ := by
      have : (x.1, Fl.loc) ∈ Γ.take ps.length := by rw [F.take]; exact List.mem_map.mpr ⟨x.1, hp, rfl⟩
      exact List.mem_of_mem_take this
    rcases isStore_cases (F.store _ hm) with e | e
    · exact .inl e
    · obtain ⟨c, hc⟩ := cells_mem (n := s'.heap.objs.size + 1) (acc := []) (mem_of_lookup' e)
      exact .inr ⟨e, by rw [hc]; rfl⟩
  · have hbase' : ∀ a o, hb.get? a = some o → s'.heap.get? a = some o := fun a o e => K.get a o (hbase a o e)
    have hY' : ∀ a, Y a → ∃ o, s'.heap.get? a = some o := fun a y => let ⟨o, e⟩ := hY a y; ⟨o, K.get _ _ e⟩
    obtain ⟨O, S, new⟩ := frame_start F hsc D.gl D.bl hbase' hY' hYo r' hlen I
    have R' : Room k (A.deeper (callEnvC fd s'.heap.objs.size a)) := ⟨R.1, by have h1 := R.2.1; show A.depth + 1 + k < recursionLimit; omega, by have h1 := R.2.2; show A.units + 3 + 20 * k + 200 < cLine; omega⟩
    obtain ⟨h₁, t₁, e₁⟩ := I.toInCall.same
    refine h _ _ s₁ _ _ O R' S (K.trans ⟨⟨h₁, t₁, e₁⟩, I.toInCall.keep⟩) fun b x ny => ?_
    rcases x with y | x
    · exact absurd y ny
    · have n1 := new b x
      cases e : s.heap.get? b with
      | none => rfl
      | some o => rw [K.get _ _ e] at n1; cases n1

noncomputable def defG (N : Nat) (g : List PyData → Option (List PyData)) (f : Rho → Option Out) (ds : List PyData) : Option PyData := match g ds with
  | some ds' => runBody f (rho0 N ds')
  | none => none
theorem callOk_bind {a : Addr} {fd : FuncData} {ps : List Str} {body : List Stmt} {g : List PyData → Option (List PyData)} {f : Rho → Option Out} (D : DefAt hb a fd sc body) (hbind : BindOk prog w hb fd ps g) (hok : defOk Γ sc ps = true)
    (h : SimS prog w hb k Γ sc f body) : CallOk prog w hb (k + 1) (.ref a) (defG Γ.length g f) := by
  intro A Y s vals ds d Q E R hbase hY hYo r hg q
  unfold defG at hg
  split at hg
  case h_2 => cases hg
  rename_i ds' eg
  refine call_enter D hbind hok R hbase hY hYo r eg fun env X s₁ A' E' O R' S K new => ?_
  unfold runBody at hg
  cases ef : f (rho0 Γ.length ds') with
  | none => rw [ef] at hg; cases hg
  | some out =>
    rw [ef] at hg
    have kp : ∀ {X' : Addr → Prop} {s' : Shared}, Step Y X X' s₁ s' → Kp s s' := by
      intro X' s' st
      obtain ⟨⟨h₁, t₁, e₁⟩, k₁⟩ := K
      obtain ⟨h₂, t₂, e₂⟩ := st.eqs
      refine ⟨⟨h₂, t₂, by rw [e₂, e₁]⟩, fun b o e => st.keep b o (fun z => ?_) (k₁ b o e)⟩
      rcases st.fresh b z.1 with x | x
      · have := new b x z.2
        rw [e] at this; cases this
      · rw [k₁ b o e] at x; cases x
    refine h _ O _ Y _ _ s₁ out _ _ R' S ef fun fl s' p => ?_
    cases out with
    | next ρ' =>
      cases hg
      obtain ⟨rfl, X', st, _⟩ := p
      exact q _ s' (kp st) .none
    | ret d' =>
      cases hg
      obtain ⟨v, X', rfl, st, rv⟩ := p
      exact q v s' (kp st) rv
    | brk => cases hg
    | cont => cases hg
/-- plain parameters -/
noncomputable def plainG (n : Nat) (ds : List PyData) : Option (List PyData) := if ds.length = n then some ds else none
theorem bind_plain {fd : FuncData} {ps : List Str} (hbind : ∀ vals : List Value, vals.length = ps.length → bindArgs fd ⟨vals, []⟩ = pure (ps.zip vals)) : BindOk prog w hb fd ps (plainG ps.length) := by
  intro A Y s vs ds ds' Q E _ _ r hg q
  unfold plainG at hg
  split at hg
  · rename_i e
    cases hg
    have hlen : vs.length = ps.length := r.length.trans e
    rw [hbind vs hlen]
    exact wpAny_pure (q vs s (Kp.refl s) r hlen)
  · cases hg
end
end Mine


namespace Mine
/-! `for i, x in enumerate(xs)` -/
noncomputable def enumL (n : Nat) : List PyData → List PyData
  | [] => []
  | d :: ds => .tuple [.int n, d] :: enumL (n + 1) ds
theorem enumL_length : ∀ (ds : List PyData) (n : Nat), (enumL n ds).length = ds.length
  | [], _ => rfl
  | _ :: ds, n => congrArg (· + 1) (enumL_length ds (n + 1))
theorem enumL_get : ∀ (ds : List PyData) (n i : Nat) (e : PyData), (enumL n ds)[i]? = some e → ∃ d, ds[i]? = some d ∧ e = .tuple [.int ((n + i : Nat) : Int), d]
  | [], _, i, e, h => by simp [enumL] at h
  | d :: ds, n, 0, e, h => by simp [enumL] at h; exact ⟨d, rfl, h.symm⟩
  | d :: ds, n, i + 1, e, h => by
    obtain ⟨d', h1, h2⟩ := enumL_get ds (n + 1) i e (by simpa [enumL] using h)
    exact ⟨d', by simpa using h1, by rw [h2]; congr 4; omega⟩
structure ItAtT (prog : Program) (w : World) (X : Addr → Prop) (h₀ h : Heap) (I : Addr) (fp wr : List Addr) (Pt : Nat → Array Value → Prop) (St' : Nat → Heap → Prop) (Mid : Nat → Addr → Heap → Prop) (ds : List PyData) : Prop where
  W : ∀ A : Around, A.handled = none → WalksT prog w A I fp wr ds.length Pt St' Mid
  st : St' 0 h
  fresh : ∀ b ∈ wr, h₀.get? b = none
  alive : ∀ i h, St' i h → ∀ b ∈ fp, ∃ o, h.get? b = some o
  rest : ∀ b ∈ fp, b ∉ wr → ¬ X b
  item : ∀ i vals d, Pt i vals → ds[i]? = some d → Rvs (fun a => X a ∨ a ∈ wr) h vals.toList [.int (i : Int), d]
noncomputable def SimIT (prog : Program) (w : World) (hb : Heap) (k : Nat) (Γ : Lay) (sc : Scope) (f : Rho → Option (List PyData)) (e : Expr) : Prop :=
  ∀ env, EnvOk hb sc env → ∀ (A : Around) (Y X : Addr → Prop) (ρ : Rho) (s : Shared) (ds : List PyData) (Q : Value → Shared → Prop) (E : Value → Shared → Prop), Room k A → St hb Γ env Y X ρ s → f ρ = some ds →
    (∀ I s' fp wr Pt St' Mid, Kp s s' → ItAtT prog w X s.heap s'.heap I fp wr Pt St' Mid ds → Q (.ref I) s') → wpAny (model prog w) A (eval e env) (fun x s₁ => wpAny (model prog w) A (pyIter x) Q E s₁) E s
noncomputable def forE (fi : Rho → Option (List PyData)) (is : List Nat) (body orelse : Rho → Option Out) (ρ : Rho) : Option Out := match fi ρ with
  | some ds => loopD (bindT (.tup is)) body orelse (enumL 0 ds) ρ
  | none => none

section
variable {prog : Program} {w : World} {hb : Heap} {k : Nat} {Γ : Lay} {sc : Scope} {mg mb : Str → Option Value}
theorem S_forE {fi : Rho → Option (List PyData)} {is : List Nat} {ts : List Expr} {n : Nat} {tp : Pos} {fb fe : Rho → Option Out} {iter : Expr} {body orelse : List Stmt} {pos : Pos}
    (hi : SimIT prog w hb k Γ sc fi iter) (ht : SimAs prog w hb k Γ sc is ts) (hl' : ∀ env, (assignEach ts env).length = is.length) (hst' : ∀ env, (assignEach ts env).findIdx? (·.1) = none)
    (hbd : SimS prog w hb k Γ sc fb body) (hel : SimS prog w hb k Γ sc fe orelse) (hs : ∀ env x, foldedSetIterable iter env x = pure x) : Sim1 prog w hb k Γ sc (forE fi is fb fe) (.For (.Tuple ts n tp) iter body orelse pos) := by
  intro env O A Y X ρ s o Q E R S hf q
  unfold forE at hf
  split at hf
  · rename_i ds eds
    refine wpAny_For (hi env O A Y X ρ s ds _ E R S eds fun I s₂ fp wr Pt St' Mid K₂ T => ?_) (hs env)
    have W := T.W A R.1
    have S₂ := S.guard K₂ T.fresh (fun b hb => T.alive 0 _ T.st b (W.sub b hb))
    have hCn : ∀ n c, env.cells.lookup n = some c → c ∉ wr := fun n c e h => by obtain ⟨o, e'⟩ := S.dom c (S.celX n c e); rw [T.fresh c h] at e'; cases e'
    have hYn : ∀ a, Y a → a ∉ wr := fun a y h => by obtain ⟨o, e'⟩ := S.dom a (S.sub a y); rw [T.fresh a h] at e'; cases e'
    have outS : ∀ {X' : Addr → Prop} {s' : Shared}, LStep wr (fun a => Y a ∨ a ∈ wr) (fun a => X a ∨ a ∈ wr) X' s₂ s' → Step Y X (fun a => X' a ∧ a ∉ wr) s s' := fun l => LStep.out K₂ T.fresh S.dom l
    have hXw : ∀ c ∈ wr, (X c ∨ c ∈ wr) := fun c h => .inr h
    have hlenE := enumL_length ds 0
    refine codeAny_forLoop_any (fun n s' => ∃ j X' ρ', n = ds.length + 1 - j ∧ j ≤ ds.length ∧ St' j s'.heap ∧ LStep wr (fun a => Y a ∨ a ∈ wr) (fun a => X a ∨ a ∈ wr) X' s₂ s' ∧ St hb Γ env (fun a => Y a ∨ a ∈ wr) X' ρ' s' ∧ loopD (bindT (.tup is)) fb fe ((enumL 0 ds).drop j) ρ' = some o)
      ?_ (ds.length + 1) ⟨0, _, ρ, rfl, Nat.zero_le _, T.st, LStep.refl _ _ _ _, S₂, hf⟩
    rintro n s' ⟨j, X', ρ', rfl, hj, hst, L, S', hl⟩
    rcases Nat.lt_or_ge j ds.length with hlt | hge
    · -- an item
      refine W.item j _ _ _ hlt hst fun tt vals h₁ tk₁ hP hsz hT hM hk₁ => ?_
      have hap := W.apart j tt h₁ hM
      refine W.go _ _ _ j tt { s' with heap := h₁, toks := tk₁ } _ _ hM fun h₂ hst₂ hk₂ => ?_
      have hk : ∀ b o, b ∉ wr → s'.heap.get? b = some o → h₂.get? b = some o := fun b o hb e => hk₂ b o hb (hk₁ b o hb e)
      have hal := T.alive _ _ hst₂
      have S₁ := S'.other (tk := tk₁) (fun b h => .inr h) hk (fun b h => hal b (W.sub b h)) hCn
      have L₁ := L.other (tk := tk₁) hk
      have ed : ds[j]? = some ds[j] := List.getElem?_eq_getElem hlt
      have hr := T.item j vals _ hP ed
      have hr₁ : Rvs X' h₂ vals.toList [.int (j : Int), ds[j]] := hr.move fun a o nx e _ => by
        have h1 : ¬ X' a := fun x => (L.fresh a x).elim nx fun e' => by rw [e'] at e; cases e
        refine ⟨h1, hk a o (fun h => nx (.inr h)) (L.keep a o (fun h => nx (.inr h)) (fun z => h1 z.1) e)⟩
      obtain ⟨oT, eT, cT, nT, dT⟩ := hT
      have eT₂ := hk₂ tt oT hap eT
      have hltE : j < (enumL 0 ds).length := by rw [hlenE]; exact hlt
      rw [List.drop_eq_getElem_cons hltE] at hl
      obtain ⟨d', e1, e2⟩ := enumL_get ds 0 j _ (List.getElem?_eq_getElem hltE)
      rw [ed] at e1
      cases e1
      rw [e2] at hl
      unfold loopD at hl
      split at hl
      · cases hl
      · rename_i ρ₁ eb
        have eb' : setAll is [.int (j : Int), ds[j]] ρ' = some ρ₁ := by
          have : ((0 + j : Nat) : Int) = (j : Int) := by omega
          rw [← this]; exact eb
        have hlen : (assignEach ts env).length = vals.size := by
          rw [hl' env, As_length eb']
          have := hr₁.length
          rw [Array.length_toList] at this
          exact this.symm
        refine wpAny_assign_Tuple R.1 ⟨oT, eT₂, cT, nT, dT⟩ hlen (hst' env) fun h' hx => ?_
        have K' : Kp { s' with heap := h₂, toks := tk₁ } { s' with heap := h', toks := tk₁ } := ⟨⟨_, _, rfl⟩, fun b o e => hx b o (fun hb => by rw [hb, none_size] at e; cases e) e⟩
        refine ht env O A _ X' ρ' ρ₁ _ _ _ _ _ R (S₁.keeps K') (hr₁.keeps K'.get) eb' fun s₃ X₃ st₃' S₃ => ?_
        have st₃ := (Step.of_kp (Y := fun a => Y a ∨ a ∈ wr) (X := X') K').trans st₃'
        have L₃ := L₁.step st₃ hXw
        have keepSt : ∀ {i : Nat} {sa sb : Shared} {Xa Xb : Addr → Prop}, St' i sa.heap → LStep wr (fun a => Y a ∨ a ∈ wr) (fun a => X a ∨ a ∈ wr) Xb s₂ sb → Step (fun a => Y a ∨ a ∈ wr) Xa Xb sa sb → St' i sb.heap := by
          intro i sa sb Xa Xb h l st
          refine W.frame i _ _ h fun b hbf ob eb' => st.keep b ob (fun z => ?_) eb'
          by_cases hw : b ∈ wr
          · exact z.2 (.inr hw)
          · rcases l.fresh b z.1 with q' | q'
            · exact q'.elim (T.rest b hbf hw) hw
            · obtain ⟨oo, ee⟩ := T.alive 0 _ T.st b hbf
              rw [ee] at q'; cases q'
        have hst₃ := keepSt hst₂ L₃ st₃
        cases ebd : fb ρ₁ with
        | none => rw [ebd] at hl; cases hl
        | some out =>
          rw [ebd] at hl
          refine hbd env O A _ X₃ ρ₁ s₃ out _ _ R S₃ ebd fun fl s₄ p => ?_
          cases out with
          | next ρ₂ =>
            obtain ⟨rfl, X₄, st₄, S₄⟩ := p
            exact ⟨ds.length + 1 - (j + 1), dec_lt hlt, j + 1, X₄, ρ₂, rfl, hlt, keepSt hst₃ (L₃.step st₄ hXw) st₄, L₃.step st₄ hXw, S₄, hl⟩
          | cont ρ₂ =>
            obtain ⟨rfl, X₄, st₄, S₄⟩ := p
            exact ⟨ds.length + 1 - (j + 1), dec_lt hlt, j + 1, X₄, ρ₂, rfl, hlt, keepSt hst₃ (L₃.step st₄ hXw) st₄, L₃.step st₄ hXw, S₄, hl⟩
          | brk ρ₂ =>
            obtain ⟨rfl, X₄, st₄, S₄⟩ := p
            cases hl
            exact q _ s₄ ⟨rfl, _, outS (L₃.step st₄ hXw), S₄.unguard hYn hCn⟩
          | ret d =>
            obtain ⟨v', X₄, rfl, st₄, r₄⟩ := p
            cases hl
            exact q _ s₄ ⟨v', _, rfl, outS (L₃.step st₄ hXw), r₄.reX fun a y => .inl (.inl y)⟩
    · -- the end
      have hjn : j = ds.length := Nat.le_antisymm hj hge
      subst hjn
      rw [← hlenE, List.drop_length] at hl
      refine W.done _ _ _ hst fun h₁ tk₁ hk₁ => ?_
      exact hel env O A Y _ ρ' _ o _ _ R (S'.finish (tk := tk₁) hYn hCn hk₁) hl fun fl s₄ p => q fl s₄ (p.step (outS (L.other (tk := tk₁) hk₁)))
  · cases hf
end
end Mine


namespace Mine
section
variable {prog : Program} {w : World} {A : Around} {E : Value → Shared → Prop} {s : Shared}
theorem nextOf_tuple_item {it t : Addr} {i : Nat} {items : Array Value} {x : Value} {Q : Value → Shared → Prop} (hit : s.heap.IsTupleIter it t i) (ht : s.heap.IsTuple t items) (hx : items[i]? = some x)
    (hQ : ∀ h', h'.IsTupleIter it t (i + 1) → Heap.SameBut it s.heap h' → Q x { s with heap := h' }) : wpAny (model prog w) A (Builtin.SmallTypes.nextOf (.ref it)) Q E s := by
  obtain ⟨o, ho, hc, hd⟩ := id hit
  obtain ⟨ol, hol, _, nl, hdl⟩ := ht
  unfold Builtin.SmallTypes.nextOf
  refine wpAny_bind (wpAny_callSpecial?_slot (name := Str.ofString "__next__") hit.typeIs PySem.F.slot_tuple_iterator_next
    (wpAny_call_entry PySem.F.slot_tuple_iterator_next hit.typeIs PySem.F.entry_tuple_iterator_next ?_ (PySem.F.args_tuple_iterator_next_1 _)))
  show wpAny _ _ (field (.ref it) 0 >>= _) _ _ s
  refine wpAny_bind (wpAny_field ho hd (x := .ref t) rfl ?_)
  show wpAny _ _ (if (Value.ref t == Value.none) = true then _ else _) _ _ s
  rw [if_neg (show ¬ ((Value.ref t == Value.none) = true) from Bool.false_ne_true)]
  show wpAny _ _ (field (.ref it) 1 >>= _) _ _ s
  refine wpAny_bind (wpAny_field ho hd (x := .int i 0) rfl ?_)
  show wpAny _ _ (seqItems? (.ref t) >>= _) _ _ s
  refine wpAny_bind (wpAny_seqItems hol hdl ?_)
  simp only [Int.toNat_natCast, hx]
  refine wpAny_bind (wpAny_setField ho hd (by simp) (wpAny_pure ⟨x, rfl, wpAny_pure (hQ _ ?_ (Heap.SameBut.update ..))⟩))
  exact ⟨_, Heap.get?_update_self _ ho (Obj.isFreed_of_fields (Obj.data_mapFields hd _)), (Obj.cls_mapFields ..).trans hc, by
    rw [Obj.data_mapFields hd]; simp [rawInt]⟩
theorem nextOf_tuple_end {it t : Addr} {i : Nat} {items : Array Value} {Q : Value → Shared → Prop} (hh : A.handled = none) (hit : s.heap.IsTupleIter it t i) (ht : s.heap.IsTuple t items) (hx : items[i]? = none)
    (hE : ∀ h' e, Heap.ExtBut it s.heap h' → (∃ o, h'.get? e = some o ∧ o.cls = .type "StopIteration") → E (.ref e) { s with heap := h' }) : wpAny (model prog w) A (Builtin.SmallTypes.nextOf (.ref it)) Q E s := by
  obtain ⟨o, ho, hc, hd⟩ := id hit
  obtain ⟨ol, hol, _, nl, hdl⟩ := ht
  unfold Builtin.SmallTypes.nextOf
  refine wpAny_bind (wpAny_callSpecial?_slot (name := Str.ofString "__next__") hit.typeIs PySem.F.slot_tuple_iterator_next
    (wpAny_call_entry PySem.F.slot_tuple_iterator_next hit.typeIs PySem.F.entry_tuple_iterator_next ?_ (PySem.F.args_tuple_iterator_next_1 _)))
  show wpAny _ _ (field (.ref it) 0 >>= _) _ _ s
  refine wpAny_bind (wpAny_field ho hd (x := .ref t) rfl ?_)
  show wpAny _ _ (if (Value.ref t == Value.none) = true then _ else _) _ _ s
  rw [if_neg (show ¬ ((Value.ref t == Value.none) = true) from Bool.false_ne_true)]
  show wpAny _ _ (field (.ref it) 1 >>= _) _ _ s
  refine wpAny_bind (wpAny_field ho hd (x := .int i 0) rfl ?_)
  show wpAny _ _ (seqItems? (.ref t) >>= _) _ _ s
  refine wpAny_bind (wpAny_seqItems hol hdl ?_)
  simp only [Int.toNat_natCast, hx]
  refine wpAny_bind (wpAny_rule (wpAny_bind (wpAny_setField ho hd (by simp) ?_)))
  show wpAny _ _ (newExc (.type "StopIteration") [] >>= _) _ _ _
  refine wpAny_bind ?_
  simp only [newExc, newTuple]
  refine wpAny_bind (wpAny_newObj_type ?_ (by size_fits))
  refine wpAny_bind (m := firstArgMember _ _) (wpAny_of_eq (a := Value.none) (by first | rfl | (simp only [firstArgMember]; rfl)) ?_)
  refine wpAny_newObj_type ?_ (by size_fits)
  simp only [raiseNew]
  refine wpAny_bind (wpAny_handled ?_)
  first | rw [show A.in1.handled = none from hh] | rw [hh]
  refine wpAny_bind (wpAny_pure (wpAny_throw ?_))
  exact hE _ _ (((Heap.SameBut.update ..).extBut.push _).push _) ⟨_, Heap.get?_push_size _ rfl, rfl⟩
theorem draws_tuple (hh : A.handled = none) (it l : Addr) (hne : l ≠ it) (items : Array Value) :
    Draws prog w A it [it, l] items.size (fun i v => items[i]? = some v) (fun i h => h.IsTupleIter it l i ∧ h.IsTuple l items) where
  live := fun _ _ st => let ⟨o, ho, _⟩ := st.1; ⟨o, ho⟩
  frame := fun _ _ _ st hk => ⟨st.1.at fun o e => hk it (by simp) o e, st.2.at fun o e => hk l (by simp) o e⟩
  item := fun i s Q E hi st hQ => by
    refine nextOf_tuple_item st.1 st.2 (x := items[i]) (by simp [hi]) fun h' hit' hs' => ?_
    exact hQ _ h' s.toks (by simp [hi]) ⟨hit', st.2.at fun o e => hs'.extBut l o hne e⟩ hs'
  done := fun s Q E st hE => nextOf_tuple_end hh st.1 st.2 (by simp) hE
end
theorem enumerate_newT (l : Addr) (items : Array Value) (n : Nat) :
    Meets (Builtin.«enumerate.__new__» ⟨[.type "enumerate", .ref l], []⟩) (fun _ R s => s.heap.get? l = some { cls := .type "tuple", data := .seq items n } ∧
      R (.ok (.ret (.ref (s.heap.push { cls := .type "tuple_iterator", data := .fields #[.ref l, .int 0 0] }).objs.size)))
        { s with heap := (s.heap.push { cls := .type "tuple_iterator", data := .fields #[.ref l, .int 0 0] }).push { cls := .type "enumerate", data := .fields #[.none, .bool false, .ref s.heap.objs.size, rawInt 0, .none, .none] } }) :=
  .of_wp fun prog w A R s h => by
    obtain ⟨hp, g, d, tk, os⟩ := s; obtain ⟨hl, h⟩ := h
    have hsub := sub_enumerate
    have hL : Heap.IsTuple (Shared.heap ⟨hp, g, d, tk, os⟩) l items := ⟨_, hl, rfl, n, rfl⟩
    wp_walk using AutoSeq1.wpAny_loadPart' hl
    refine wpAny_stack_any fun st => wpAny_pure ?_
    split
    · rename_i c _ _ _ _ _
      cases (c == Value.type "enumerate")
      · wp_walk using AutoSeq1.wpAny_loadPart' hl, wpAny_pyIter_tuple hL
        exact ⟨_, rfl, h⟩
      · wp_walk using AutoSeq1.wpAny_loadPart' hl, wpAny_pyIter_tuple hL
        exact ⟨_, rfl, h⟩
    · wp_walk using AutoSeq1.wpAny_loadPart' hl, wpAny_pyIter_tuple hL
      exact ⟨_, rfl, h⟩
section
variable {prog : Program} {w : World} {A : Around} {E : Value → Shared → Prop} {s : Shared}
theorem call_enumerate_tuple {l : Addr} {items : Array Value} {n : Nat} {Q : Value → Shared → Prop} (hl : s.heap.get? l = some { cls := .type "tuple", data := .seq items n })
    (h : ∀ h', IsEnum h' (s.heap.objs.size + 1) s.heap.objs.size 0 .none → h'.IsTupleIter s.heap.objs.size l 0 → h'.objs.size = s.heap.objs.size + 2 →
      (∀ b o, s.heap.get? b = some o → h'.get? b = some o) → Q (.ref (s.heap.objs.size + 1)) { s with heap := h' }) :
    wpAny (model prog w) A (call (.type "enumerate") [.ref l]) Q E s := by
  refine callType_new PySem.F.called_enumerate (by decide) (PySem.F.typeCall_enumerate_1 _) (PySem.F.newCall_enumerate_1 _) (fun obj => PySem.F.args_object_init_2 obj _) PySem.F.entry_enumerate_new
    (enumerate_newT l items n) ⟨hl, ?_⟩
  have hz : (s.heap.push { cls := .type "tuple_iterator", data := .fields #[.ref l, .int 0 0] }).objs.size = s.heap.objs.size + 1 := Heap.size_push ..
  show _ ∧ _
  rw [hz]
  have he : IsEnum ((s.heap.push { cls := .type "tuple_iterator", data := .fields #[.ref l, .int 0 0] }).push
      { cls := .type "enumerate", data := .fields #[.none, .bool false, .ref s.heap.objs.size, rawInt 0, .none, .none] }) (s.heap.objs.size + 1) s.heap.objs.size 0 .none := by
    have := Heap.get?_push_size (s.heap.push { cls := .type "tuple_iterator", data := .fields #[.ref l, .int 0 0] })
      (o := { cls := .type "enumerate", data := .fields #[.none, .bool false, .ref s.heap.objs.size, rawInt 0, .none, .none] }) rfl
    rw [hz] at this; exact this
  refine ⟨⟨_, he, rfl⟩, h _ he ⟨_, Heap.get?_push_of_some _ (Heap.get?_push_size _ rfl), rfl, rfl⟩ (by rw [Heap.size_push, hz]) fun b o x => Heap.get?_push_of_some _ (Heap.get?_push_of_some _ x)⟩
end
section
variable {prog : Program} {w : World} {hb : Heap} {k : Nat} {Γ : Lay} {sc : Scope} {mg mb : Str → Option Value}
theorem I_enum {f : Rho → Option PyData} {e : Expr} {p pos : Pos} (G : GlobOk mg mb hb) (hk : isGlob sc "enumerate" = true) (hn : mg "enumerate" = none) (hv : mb "enumerate" = some (.type "enumerate")) (h : SimE prog w hb k Γ sc f e) (he : ∀ env, starEach [e] env = (false, eval e env) :: starEach [] env) :
    SimIT prog w hb k Γ sc (seqL f) (.Call (.Name "enumerate" p) [e] [] pos) := by
  intro env O A Y X ρ s ds Q E R S hf q
  refine Call_ (load_blt G O S.base hk hn hv ?_) rfl
  refine PyProof.Rows.callWith_type1 (wpAny_items_cons ?_ (he env)) (he env) rfl
  unfold seqL at hf
  split at hf
  case h_3 => cases hf
  · rename_i l el
    cases hf
    refine h env O A Y X ρ s _ _ E R S el fun v s₁ K₁ r₁ => wpAny_items_nil ?_
    obtain ⟨a, o, vs, n, rfl, xa, e, c, dt, r⟩ := r₁.list_inv
    have lt := Heap.lt_size e
    have hlen := r.length
    rw [Array.length_toList] at hlen
    refine call_enumerate_list ⟨o, e, c.cls, n, dt⟩ fun h' hE hI hsz hk' => ?_
    refine wpAny_pyIter_enum hE ?_
    have K : Kp s { s₁ with heap := h' } := K₁.trans (Kp.mk' hk')
    have fr : ∀ b, s₁.heap.objs.size ≤ b → s.heap.get? b = none := fun b hb' => by
      cases e : s.heap.get? b with
      | none => rfl
      | some o => exact absurd (Heap.lt_size (K₁.get _ _ e)) (Nat.not_lt.mpr hb')
    refine q _ _ [s₁.heap.objs.size + 1, s₁.heap.objs.size, a] [s₁.heap.objs.size + 1, s₁.heap.objs.size] _ _ _ K ⟨fun A hA => by rw [← hlen]; exact WalksT.enumerate hA _ _ a (Nat.ne_of_gt (Nat.lt_succ_self _)) (Nat.ne_of_lt (Nat.lt_succ_of_lt lt)) (Nat.ne_of_lt lt) vs, ?_, ?_, ?_, ?_, ?_⟩
    · exact ⟨⟨_, hE⟩, hI, ⟨o, hk' _ _ e, c.cls, n, dt⟩⟩
    · intro b hb'
      rcases List.mem_cons.mp hb' with rfl | hb'
      · exact fr _ (Nat.le_succ _)
      · rw [List.mem_singleton.mp hb']; exact fr _ (Nat.le_refl _)
    · intro i h st b hb'
      obtain ⟨⟨old, h1⟩, ⟨o1, h2, _⟩, ⟨o2, h3, _⟩⟩ := st
      simp only [List.mem_cons, List.not_mem_nil, or_false] at hb'
      rcases hb' with rfl | rfl | rfl
      · exact ⟨_, h1⟩
      · exact ⟨_, h2⟩
      · exact ⟨_, h3⟩
    · intro b hb' hw
      simp only [List.mem_cons, List.not_mem_nil, or_false, not_or] at hb' hw
      rcases hb' with rfl | rfl | rfl
      · exact absurd rfl hw.1
      · exact absurd rfl hw.2
      · exact xa
    · intro i vals d hp hd
      obtain ⟨t, x, hx, rfl⟩ := hp
      obtain ⟨v', e', r'⟩ := r.get hd
      have : v' = x := by
        have q : vs.toList[i]? = some x := by simpa using hx
        rw [e'] at q; exact Option.some.inj q
      subst this
      refine .cons (.int _ _) (.cons ((r'.reX (X' := fun b => X b ∨ b ∈ [s₁.heap.objs.size + 1, s₁.heap.objs.size]) fun b hb' => hb'.imp id fun hb' => ?_).keeps hk') .nil)
      cases e : s₁.heap.get? b with
      | none => rfl
      | some o =>
        have := Heap.lt_size e
        rcases List.mem_cons.mp hb' with rfl | hb'
        · exact absurd this (Nat.not_lt.mpr (Nat.le_succ _))
        · rw [List.mem_singleton.mp hb'] at this; exact absurd this (Nat.lt_irrefl _)
  · rename_i l el
    cases hf
    refine h env O A Y X ρ s _ _ E R S el fun v s₁ K₁ r₁ => wpAny_items_nil ?_
    cases r₁ with
    | @tuple a o vs n ds xa e c dt r =>
    have lt := Heap.lt_size e
    have hlen := r.length
    rw [Array.length_toList] at hlen
    refine call_enumerate_tuple (items := vs) (n := n) (by rw [e, c]) fun h' hE hI hsz hk' => ?_
    refine wpAny_pyIter_enum hE ?_
    have K : Kp s { s₁ with heap := h' } := K₁.trans (Kp.mk' hk')
    have fr : ∀ b, s₁.heap.objs.size ≤ b → s.heap.get? b = none := fun b hb' => by
      cases e : s.heap.get? b with
      | none => rfl
      | some o => exact absurd (Heap.lt_size (K₁.get _ _ e)) (Nat.not_lt.mpr hb')
    refine q _ _ [s₁.heap.objs.size + 1, s₁.heap.objs.size, a] [s₁.heap.objs.size + 1, s₁.heap.objs.size] _ _ _ K ⟨fun A hA => by
      rw [← hlen]; exact WalksT.enumerateD (draws_tuple (A := A.in1) hA s₁.heap.objs.size a (Nat.ne_of_lt lt) vs) _ (Nat.ne_of_gt (Nat.lt_succ_self _)) (by
        simp only [List.mem_cons, List.not_mem_nil, or_false, not_or]; exact ⟨Nat.ne_of_gt (Nat.lt_succ_self _), Nat.ne_of_gt (Nat.lt_succ_of_lt lt)⟩) (by simp), ?_, ?_, ?_, ?_, ?_⟩
    · exact ⟨⟨_, hE⟩, hI, ⟨o, hk' _ _ e, c.cls, n, dt⟩⟩
    · intro b hb'
      rcases List.mem_cons.mp hb' with rfl | hb'
      · exact fr _ (Nat.le_succ _)
      · rw [List.mem_singleton.mp hb']; exact fr _ (Nat.le_refl _)
    · intro i h st b hb'
      obtain ⟨⟨old, h1⟩, ⟨o1, h2, _⟩, ⟨o2, h3, _⟩⟩ := st
      simp only [List.mem_cons, List.not_mem_nil, or_false] at hb'
      rcases hb' with rfl | rfl | rfl
      · exact ⟨_, h1⟩
      · exact ⟨_, h2⟩
      · exact ⟨_, h3⟩
    · intro b hb' hw
      simp only [List.mem_cons, List.not_mem_nil, or_false, not_or] at hb' hw
      rcases hb' with rfl | rfl | rfl
      · exact absurd rfl hw.1
      · exact absurd rfl hw.2
      · exact xa
    · intro i vals d hp hd
      obtain ⟨t, x, hx, rfl⟩ := hp
      obtain ⟨v', e', r'⟩ := r.get hd
      have : v' = x := by
        have q : vs.toList[i]? = some x := by simpa using hx
        rw [e'] at q; exact Option.some.inj q
      subst this
      refine .cons (.int _ _) (.cons ((r'.reX (X' := fun b => X b ∨ b ∈ [s₁.heap.objs.size + 1, s₁.heap.objs.size]) fun b hb' => hb'.imp id fun hb' => ?_).keeps hk') .nil)
      cases e : s₁.heap.get? b with
      | none => rfl
      | some o =>
        have := Heap.lt_size e
        rcases List.mem_cons.mp hb' with rfl | hb'
        · exact absurd this (Nat.not_lt.mpr (Nat.le_succ _))
        · rw [List.mem_singleton.mp hb'] at this; exact absurd this (Nat.lt_irrefl _)
end
end Mine


namespace Mine
noncomputable def insI (x : Int) : List Int → List Int
  | [] => [x]
  | y :: r => if x ≤ y then x :: y :: r else y :: insI x r
noncomputable def isort : List Int → List Int
  | [] => []
  | x :: r => insI x (isort r)
theorem insI_perm (x : Int) : ∀ l, (insI x l).Perm (x :: l)
  | [] => .refl _
  | y :: r => by
    unfold insI
    split
    · exact .refl _
    · exact ((insI_perm x r).cons y).trans (.swap _ _ _)
theorem isort_perm : ∀ l, (isort l).Perm l
  | [] => .refl _
  | x :: r => (insI_perm x _).trans ((isort_perm r).cons x)
theorem insI_sorted (x : Int) : ∀ l : List Int, l.Pairwise (· ≤ ·) → (insI x l).Pairwise (· ≤ ·)
  | [], _ => by simp [insI]
  | y :: r, h => by
    rw [List.pairwise_cons] at h
    unfold insI
    split
    · rename_i hxy
      refine List.pairwise_cons.mpr ⟨fun z hz => ?_, List.pairwise_cons.mpr h⟩
      rcases List.mem_cons.mp hz with rfl | hz
      · exact hxy
      · exact Int.le_trans hxy (h.1 z hz)
    · rename_i hxy
      refine List.pairwise_cons.mpr ⟨fun z hz => ?_, insI_sorted x r h.2⟩
      rcases List.mem_cons.mp ((insI_perm x r).mem_iff.mp hz) with rfl | hz
      · omega
      · exact h.1 z hz
theorem isort_sorted : ∀ l : List Int, (isort l).Pairwise (· ≤ ·)
  | [] => .nil
  | x :: r => insI_sorted x _ (isort_sorted r)
theorem isort_unique {l m : List Int} (h : m.Perm l) (hs : m.Pairwise (· ≤ ·)) : m = isort l :=
  List.Perm.eq_of_pairwise (fun a b _ _ h1 h2 => Int.le_antisymm h1 h2) hs (isort_sorted l) (h.trans (isort_perm l).symm)

section
variable {prog : Program} {w : World} {hb : Heap} {k : Nat} {Γ : Lay} {sc : Scope} {mg mb : Str → Option Value}
theorem rvs_ints {X : Addr → Prop} {h : Heap} : ∀ {vs : List Value} {ks : List Int}, Rvs X h vs (ks.map .int) → IntsAre vs ks
  | _, [], r => by cases r; exact .nil
  | _, k :: ks, r => by
    cases r with
    | cons a b =>
      cases a with
      | int _ t => exact .cons k t (rvs_ints b)
theorem ints_rvs {X : Addr → Prop} {h : Heap} : ∀ {vs : List Value} {ks : List Int}, IntsAre vs ks → Rvs X h vs (ks.map .int)
  | _, _, .nil => .nil
  | _, _, .cons n t r => .cons (.int n t) (ints_rvs r)
noncomputable def sortD (f : Rho → Option PyData) (ρ : Rho) : Option PyData := match f ρ with
  | some (.list ds) => if ds.length < 64 then (match intsOf ds with
    | some ks => some (.list ((isort ks).map .int))
    | none => none) else none
  | _ => none
theorem R_sorted {f : Rho → Option PyData} {e : Expr} {p pos : Pos} (G : GlobOk mg mb hb) (hk : isGlob sc "sorted" = true) (hn : mg "sorted" = none) (hv : mb "sorted" = some (.builtin "sorted")) (h : SimE prog w hb k Γ sc f e) (he : ∀ env, starEach [e] env = [(false, eval e env)]) :
    SimE prog w hb k Γ sc (sortD f) (.Call (.Name "sorted" p) [e] [] pos) := by
  intro env O A Y X ρ s d Q E R S hf q
  unfold sortD at hf
  split at hf
  case h_2 => cases hf
  rename_i ds ef
  split at hf
  case isFalse => cases hf
  rename_i hl
  split at hf
  case h_2 => cases hf
  rename_i ks ek
  cases hf
  have em := ints_map ek
  subst em
  refine Call_ (load_blt G O S.base hk hn hv ?_) rfl
  rw [he env]
  refine callWith_builtin1 (h env O A Y X ρ s _ _ E R S ef fun v s₁ K₁ r₁ => ?_)
  obtain ⟨a, o, vs, n, rfl, xa, e, c, dt, r⟩ := r₁.list_inv
  have hlen := r.length
  refine sorted_ints (vs := vs.toList) (ns := ks) ⟨o, e, c.cls, n, dt⟩ (rvs_ints r) (by omega) fun out ns' hi hp hs => ?_
  obtain ⟨e₂, he₂⟩ := sortedAll_at s₁.heap vs.toList out
  have K₂ : Kp s₁ { s₁ with heap := sortedAll s₁.heap vs.toList out } := Kp.mk' fun b o e => sortedAll_old e
  refine q _ _ (K₁.trans K₂) (.list (fun x => ?_) he₂ rfl rfl ?_)
  · obtain ⟨o', e'⟩ := (S.keeps K₁).dom _ x; exact absurd (Heap.lt_size e') (Nat.not_lt.mpr (Nat.le_succ _))
  · rw [← isort_unique hp hs]; exact ints_rvs hi
end
end Mine


namespace Mine
theorem meta_str' : ((Value.type ((Manifest.find? "str").elim "type" fun x => x.metatype)) == Value.type "type") = true := by decide +kernel
theorem sub_str_str : isSubtype (.type "str") (.type "str") = pure true := by rw [isSubtype_type]; kernel_rfl
theorem sub_tuple_tuple : isSubtype (.type "tuple") (.type "tuple") = pure true := by rw [isSubtype_type]; kernel_rfl
theorem if_notP {α : Type} {M : Model} {A : Around} {E : Value → Shared → Prop} {s : Shared} {c : Prop} [Decidable c] {a b : Sem α} {Q : α → Shared → Prop} (hc : ¬ c) (h : wpAny M A b Q E s) : wpAny M A (if c then a else b) Q E s := by
  rw [if_neg hc]; exact h
section
variable {prog : Program} {w : World} {A : Around} {E : Value → Shared → Prop} {s : Shared}
theorem issub_self {dep : Int} {tk : Tok} {Q : Fin → Shared → Prop} (hq : Q (.done (.ret (.bool true))) s) :
    wpAny (model prog w) A (Builtin.«issubclass.nested» ⟨[.type "str", .type "str", .int dep tk], []⟩) Q E s := by
  have hm := meta_str'
  have hself := sub_str_str
  repeat (any_goals (first | assumption | (rw [if_pos hm]) | (rw [hself]) | wp_step))
theorem issub_nested {t : Addr} {o : Obj} {n : Nat} {Q : Fin → Shared → Prop} (ho : s.heap.get? t = some o) (hc : PlainO "tuple" o #[.type "str", .type "bytes"] n) (hq : Q (.done (.ret (.bool true))) s) :
    wpAny (model prog w) A (Builtin.«issubclass.nested» ⟨[.type "str", .ref t, rawInt 0], []⟩) Q E s := by
  have hT : s.TypeIs (.ref t) "tuple" := ⟨o, ho, hc.cls⟩
  unfold Builtin.«issubclass.nested»
  refine wpAny_bind (wpAny_typeOf hT ?_)
  refine else_way (by decide) ?_
  refine wpAny_bind ?_
  unfold Builtin.Builtins.unionMembers
  refine wpAny_bind (wpAny_typeOf hT ?_)
  refine else_way (by decide) (wpAny_pure ?_)
  refine wpAny_bind (wpAny_isInstance hT sub_tuple_tuple ?_)
  refine then_way rfl ?_
  dsimp only
  refine if_notP (by decide +kernel) ?_
  refine wpAny_bind ?_
  unfold seqItems?
  refine wpAny_bind (wpAny_load ho ?_)
  rw [hc]
  refine wpAny_pure ?_
  simp only [Option.getD_some, ← Array.forIn_toList, List.forIn_cons]
  refine wpAny_bind (wpAny_bind ?_)
  have entry : entryFor table "issubclass.nested" = some Builtin.«issubclass.nested» := entryFor_of_tree (by kernel_rfl)
  refine wpAny_bind (Calls.call_function_entry (by decide +kernel) (by decide +kernel) entry (by unfold argsOk; kernel_rfl) (issub_self ⟨_, rfl, ?_⟩))
  refine wpAny_bind (wpAny_truthy_bool ?_)
  refine then_way rfl ?_
  refine wpAny_bind (wpAny_pure (wpAny_pure ?_))
  exact wpAny_pure (wpAny_pure hq)
theorem call_issub {t : Addr} {o : Obj} {n : Nat} {Q : Value → Shared → Prop} (ho : s.heap.get? t = some o) (hc : PlainO "tuple" o #[.type "str", .type "bytes"] n) (hq : Q (.bool true) s) :
    wpAny (model prog w) A (call (.builtin "issubclass") [.type "str", .ref t]) Q E s :=
  call_function_meets PySem.F.kind_issubclass PySem.F.plain_issubclass PySem.F.entry_issubclass (PySem.F.args_issubclass_2 _ _) (S := fun _ R s => s.heap.get? t = some o ∧ R (.ok (.ret (.bool true))) s) (fun _ _ _ _ _ hs => issubclass_outer (issub_nested hs.1 hc hs.2)) ⟨ho, hq⟩
end
end Mine


namespace Mine
section
variable {prog : Program} {w : World} {hb : Heap} {k : Nat} {Γ : Lay} {sc : Scope} {mg mb : Str → Option Value}
/-- `isinstance(e, bytes)` of a text -/
noncomputable def isbD (f : Rho → Option PyData) (ρ : Rho) : Option Bool := match f ρ with
  | some (.str _) => some false
  | _ => none
theorem C_isbytes {f : Rho → Option PyData} {e : Expr} {p p2 pos : Pos} (G : GlobOk mg mb hb) (hk : isGlob sc "isinstance" = true) (hn : mg "isinstance" = none) (hv : mb "isinstance" = some (.builtin "isinstance"))
    (hk2 : isGlob sc "bytes" = true) (hn2 : mg "bytes" = none) (hv2 : mb "bytes" = some (.type "bytes")) (h : SimE prog w hb k Γ sc f e) (he : ∀ env, starEach [e, .Name "bytes" p2] env = (false, eval e env) :: starEach [.Name "bytes" p2] env) :
    SimC prog w hb k Γ sc (isbD f) (.Call (.Name "isinstance" p) [e, .Name "bytes" p2] [] pos) := by
  intro env O A Y X ρ s b Q E R S hf q
  unfold isbD at hf
  split at hf
  case h_2 => cases hf
  rename_i x ef
  cases hf
  refine wpAny_isTrue_value (Call_ (load_blt G O S.base hk hn hv ?_) rfl) rfl
  refine PyProof.Rows.callWith_builtin1 (wpAny_items_cons (h env O A Y X ρ s _ _ E R S ef fun v s₁ K₁ r₁ => ?_) (he env)) (he env) rfl
  refine wpAny_items_cons (load_blt G O (S.keeps K₁).base hk2 hn2 hv2 (wpAny_items_nil ?_)) rfl
  cases r₁ with
  | str _ t => exact IsiPair.str_bytes (wpAny_truthy_bool (q _ (K₁.trans (Kp.tok s₁ _))))
end
end Mine


namespace Mine
section
variable {prog : Program} {w : World} {hb : Heap} {k : Nat} {Γ : Lay} {sc : Scope} {mg mb : Str → Option Value}
/-- `def f(a, *p)` -/
noncomputable def varG (ds : List PyData) : Option (List PyData) := match ds with
  | a :: p => if p.length ≤ lim then some [a, .tuple p] else none
  | [] => none
theorem bind_var {fd : FuncData} {x y : Str} (hbind : ∀ (v : Value) (vs : List Value), bindArgs fd ⟨v :: vs, []⟩ = (do let t ← newTuple vs; pure [(x, v), (y, t)])) : BindOk prog w hb fd [x, y] varG := by
  intro A Y s vs ds ds' Q E _ hY r hg q
  unfold varG at hg
  split at hg
  case h_2 => cases hg
  rename_i a p
  split at hg
  case isFalse => cases hg
  rename_i hl
  cases hg
  cases r with
  | cons r1 r2 =>
    rename_i v vs
    rw [hbind v vs]
    have hlen := r2.length
    have l1 := lim_line
    refine wpAny_bind (wpAny_newTuple ?_ (by show vs.toArray.size ≤ sizeLine; rw [List.size_toArray]; omega))
    refine wpAny_pure ?_
    have K := Kp.push s { cls := .type "tuple", data := .seq vs.toArray }
    exact q [v, _] _ K (.cons (r1.keeps K.get) (.cons (Rv.newTuple hY r2) .nil)) rfl
/-- `def f(x, *, y=False)` -/
noncomputable def kwG (b : Bool) (ds : List PyData) : Option (List PyData) := match ds with
  | [a] => some [a, .bool b]
  | _ => none
theorem bind_kw {fd : FuncData} {x y : Str} {b : Bool} (hbind : ∀ (s : Shared) (v : Value), (∀ a o, hb.get? a = some o → s.heap.get? a = some o) → BindsTo s fd ⟨[v], []⟩ [(x, v), (y, .bool b)]) : BindOk prog w hb fd [x, y] (kwG b) := by
  intro A Y s vs ds ds' Q E hbase hY r hg q
  unfold kwG at hg
  split at hg
  case h_2 => cases hg
  cases hg
  cases r with
  | cons r1 r2 =>
    cases r2
    rename_i v
    exact hbind s v hbase _ _ _ _ (q [v, .bool b] s (Kp.refl s) (.cons r1 (.cons (.bool b) .nil)) rfl)
end
end Mine


namespace Mine
theorem nolen_dk : typeLookup (.type "dict_keyiterator") "__len__" = pure none := by rw [typeLookup_type, builtinLookup_eq_fast]; kernel_rfl
theorem hint_dk : typeLookup (.type "dict_keyiterator") "__length_hint__" = pure (some (.builtin "dict_keyiterator.__length_hint__")) := by rw [typeLookup_type, builtinLookup_eq_fast]; kernel_rfl
section
variable {prog : Program} {w : World} {A : Around} {E : Value → Shared → Prop} {s : Shared} {I : Addr} {fp wr : List Addr} {G : Array GenState → Array GenState → Prop} {n : Nat} {P : Nat → Value → Prop} {St : Nat → Shared → Prop}
theorem collect_keys {Q : List Value → Shared → Prop} (W : WalksS prog w A.in1 I fp wr G n P St) (hT : ∀ i s, St i s → s.TypeIs (.ref I) "dict_keyiterator") (hst : St 0 s) (hfp : ∀ b ∈ fp, b < s.heap.objs.size) (hI : I ∈ fp)
    (hQ : ∀ s' acc, Moved wr G s s' → ItemsOf P acc n → Q acc.toList s') (hn : n ≤ sizeLine) : wpAny (model prog w) A (collect (.ref I)) Q E s := by
  have hSf : s.heap.objs.size ∉ fp := fun hm => Nat.lt_irrefl _ (hfp _ hm)
  have hSI : s.heap.objs.size ≠ I := fun e => hSf (e ▸ hI)
  unfold collect
  refine wpAny_bind (wpAny_runValue (codeAny_builtin PySem.F.entry_proto_collect ?_))
  rw [Around.under_plainId PySem.F.plain_proto_collect _]
  show wpAny _ A.in1 (newList [] >>= fun l => again (.builtin "list.__iadd__" ⟨[l, .ref I], []⟩)) _ _ s
  refine wpAny_bind (wpAny_newObj_type ?_)
  refine wpAny_pure ⟨plainId_quiet PySem.F.plain_list_iadd _, codeAny_builtin PySem.F.entry_list_iadd ?_⟩
  rw [Around.under_plainId PySem.F.plain_list_iadd _]
  have hst₁ := W.frame 0 s (s.heap.push { cls := .type "list", data := .seq ([] : List Value).toArray }) s.toks hst (Nat.le_refl _) fun b _ o e => Heap.get?_push_of_some _ e
  have hS₁ : (s.heap.push { cls := .type "list", data := .seq ([] : List Value).toArray }).get? s.heap.objs.size = some { cls := .type "list", data := .seq ([] : List Value).toArray } := Heap.get?_push_size _ rfl
  have h1 : Builtin.List.listSameRef (.ref s.heap.objs.size) (.ref I) = false := by simp [Builtin.List.listSameRef, hSI]
  show wpAny _ A.in1 (Builtin.List.listExtendWith (.ref s.heap.objs.size) (.ref I) (.ref s.heap.objs.size)) _ _ _
  unfold Builtin.List.listExtendWith
  refine wpAny_bind (wpAny_typeOf (hT 0 _ hst₁) ?_)
  rw [if_neg (by rw [h1]; decide)]
  refine wpAny_bind (W.self 0 _ _ _ hst₁ ?_)
  refine wpAny_bind (wpAny_holding ?_)
  unfold Builtin.List.listLengthHint
  refine wpAny_bind (wpAny_specialOf (hT 0 _ hst₁) nolen_dk ?_)
  show wpAny _ A.in1 (specialOf (Value.ref I) (Str.ofString "__length_hint__") >>= _) _ _ _
  refine wpAny_bind (wpAny_specialOf (hT 0 _ hst₁) hint_dk ?_)
  generalize hid : ("dict_keyiterator.__length_hint__" : String) = id0
  wp_delta
  rw [show splitId id0 = some ("dict_keyiterator", "__length_hint__") from by subst hid; decide +kernel]
  subst hid
  refine wpAny_bind (wpAny_isInstance (b := true) (hT 0 _ hst₁) (by rw [isSubtype_type]; kernel_rfl) ?_)
  refine wpAny_pure ?_
  rw [if_neg (by decide)]
  refine wpAny_pure ⟨plainId_quiet PySem.F.plain_extend_loop _, codeAny_extend_loopS W hn _ hSf _ n 0 _ _ _ rfl (Nat.zero_le _) hst₁ hS₁ (ItemsOf.nil P) fun s' acc' c' hm hS' hacc => ?_⟩
  show wpAny _ A (load s.heap.objs.size >>= _) _ _ s'
  refine wpAny_bind (wpAny_load hS' ?_)
  exact wpAny_pure (hQ s' acc' (Moved.drop_new (o := { cls := .type "list", data := .seq ([] : List Value).toArray }) (tk := s.toks) hm (Nat.le_refl _)) hacc)
end

section
variable {prog : Program} {w : World} {A : Around} {E : Value → Shared → Prop} {s : Shared}
theorem join_dict {x : Str} {t : Tok} {d : Addr} {ks : List Str} {Q : Value → Shared → Prop} (hh : A.handled = none) (lo : (d == sysModules) = false) (hd : s.heap.DictOf (PySem.strKind prog w) d (noneKvs ks)) (hl : ks.length ≤ lim) (hok : JoinOk x ks = true)
    (q : ∀ s' t', Kp s s' → Q (.str (Txt.join x ks) t') s') : wpAny (model prog w) A (call (.builtin "str.join") [.str x t, .ref d]) Q E s := by
  refine wpAny_call (codeAny_call_builtin PySem.F.slot_str_join.plain PySem.F.entry_str_join (PySem.F.slot_str_join.check _ _ _ _ _ _ _ _ (typeIs_str _ _ _) (PySem.F.args_str_join_2 _ _) ?_))
  rw [join_tree_other]
  refine wpAny_bind (wpAny_typeOf hd.typeIs ?_)
  show wpAny _ A.in1 ((pyIter (.ref d)).tryCatch _ >>= fun it => collect it >>= fun items => joinTail x items) _ _ s
  obtain ⟨ep, hat⟩ := hd.dictAt
  refine wpAny_bind (wpAny_tryCatch (wpAny_pyIter_dict lo hat ?_))
  have hne : d ≠ s.heap.objs.size := Nat.ne_of_lt hat.lt_size
  have l1 := lim_line
  have hn : (noneKvs ks).length = ks.length := by simp [noneKvs]
  refine wpAny_bind (collect_keys (Walks.dictKeys (knd := PySem.strKind prog w) (A := A.in1.in1) hh s.heap.objs.size d hne (noneKvs ks) ep).toS (fun i s st => ?_) ⟨⟨_, Heap.get?_push_size _ rfl, rfl, rfl⟩, hat.push _⟩ (fun b hb => ?_) (List.mem_cons_self ..) (fun s' acc hm hacc => ?_) (by omega))
  · obtain ⟨⟨o, h1, h2, _⟩, _⟩ := st
    exact ⟨o, h1, h2⟩
  · rw [Heap.size_push]
    simp only [List.mem_cons, List.not_mem_nil, or_false] at hb
    rcases hb with rfl | rfl
    · exact Nat.lt_succ_self _
    · exact Nat.lt_succ_of_lt hat.lt_size
  · have key : ∀ (l : List Value) (ks : List Str), l.length = ks.length → (∀ (i : Nat) (v : Value), l[i]? = some v → ∃ k, ks[i]? = some k ∧ (PySem.strKind prog w).is k v = true) → ∃ m : List (Str × Tok), l = strValues m ∧ m.map (·.1) = ks := by
      intro l
      induction l with
      | nil => intro ks e _; cases ks with
        | nil => exact ⟨[], rfl, rfl⟩
        | cons => cases e
      | cons v l ih =>
        intro ks e hx
        cases ks with
        | nil => cases e
        | cons k ks =>
          obtain ⟨k', e1, e2⟩ := hx 0 v rfl
          simp at e1; subst e1
          obtain ⟨m, h1, h2⟩ := ih ks (by simpa using e) fun i v hv => by simpa using hx (i + 1) v (by simpa using hv)
          obtain ⟨t, rfl⟩ := Value.isStrOf_shape e2
          exact ⟨(k, t) :: m, by rw [h1]; rfl, by rw [List.map_cons, h2]⟩
    obtain ⟨l, e1, e2⟩ := key acc.toList ks (by have := hacc.1; simp [hn] at this ⊢; exact this) (fun i v hv => by
      obtain ⟨k, x, hx, hk⟩ := hacc.2 i v (by simpa using hv)
      simp [noneKvs] at hx
      obtain ⟨_, hx, rfl, _⟩ := hx
      exact ⟨_, hx, hk⟩)
    rw [e1]
    subst e2
    unfold JoinOk at hok
    rw [Bool.not_eq_true'] at hok
    have g : Gives (joinTail x (strValues l)) (joinMade x l) := by
      have g0 := gives_joinTail x l hok
      cases l with
      | nil => exact g0
      | cons p r => cases r with
        | nil => exact g0
        | cons q r' => exact g0
    have K : Kp s s' := by
      have e := Moved.eq_with hm
      refine ⟨⟨s'.heap, s'.toks, by rw [e]⟩, fun b o eb => hm.heap b o (fun hmem => ?_) (Heap.get?_push_of_some _ eb)⟩
      exact absurd (Heap.lt_size eb) (by rw [List.mem_singleton.mp hmem]; exact Nat.lt_irrefl _)
    exact g prog w A (wants Q E) s' (post_join l ⟨joinFit_length hok, fun t' k => q _ t' (K.trans (Kp.tok s' k))⟩)
end
end Mine


namespace Mine
section
variable {prog : Program} {w : World} {hb : Heap} {k : Nat} {Γ : Lay} {sc : Scope} {mg mb : Str → Option Value}
noncomputable def joinDD (f g : Rho → Option PyData) (ρ : Rho) : Option PyData := match f ρ, g ρ with
  | some (.str x), some (.list ds) => if ds.length ≤ lim then (match strsOf ds with
    | some ks => if JoinOk x (dedup [] ks) = true then some (.str (Txt.join x (dedup [] ks))) else none
    | none => none) else none
  | _, _ => none
theorem R_joinDD {f g : Rho → Option PyData} {ob e : Expr} {p2 cp apos pos : Pos} {a : Addr} {o : Obj} {fd : FuncData} (G : GlobOk mg mb hb) (hk2 : isGlob sc "_deduplicate" = true) (hv2 : mg "_deduplicate" = some (.ref a))
    (ho : hb.get? a = some o) (hd : o.data = .func fd) (hc : CallDD prog w hb k (.ref a)) (hf : SimE prog w hb k Γ sc f ob) (h : SimE prog w hb k Γ sc g e) (hm : MethForm ob "join" apos pos [.Call (.Name "_deduplicate" p2) [e] [] cp]) (he : ∀ env, starEach [e] env = (false, eval e env) :: starEach [] env)
    (he2 : ∀ env, starEach [Expr.Call (.Name "_deduplicate" p2) [e] [] cp] env = (false, eval (Expr.Call (.Name "_deduplicate" p2) [e] [] cp) env) :: starEach [] env) :
    SimE prog w hb k Γ sc (joinDD f g) (.Call (.Attribute ob "join" apos) [.Call (.Name "_deduplicate" p2) [e] [] cp] [] pos) := by
  intro env O A Y X ρ s d Q E R S h' q
  unfold joinDD at h'
  split at h'
  case h_2 => cases h'
  rename_i x ds ef eg
  split at h'
  case isFalse => cases h'
  rename_i hl
  split at h'
  case h_2 => cases h'
  rename_i ks ek
  split at h'
  case isFalse => cases h'
  rename_i hok
  cases h'
  have em := strs_map ek
  subst em
  refine meth_call (T := "str") (id := "str.join") hm PySem.F.plainAttrs_str PySem.F.slot_str_join PySem.F.type_str_join (he2 env) rfl ?_
  refine hf env O A Y X ρ s _ _ E R S ef fun v₀ s₀ K₀ r₀ => ?_
  cases r₀ with
  | str _ t =>
    have S₀ := S.keeps K₀
    refine ⟨typeIs_str _ _ _, (fun a ha => by cases ha), ?_⟩
    refine wpAny_items_cons (Call_ (load_glob G O S₀.base hk2 hv2 ?_) rfl) (he2 env)
    have hmm : ∀ Q' : List Value → Shared → Prop, (∀ v s₁, Kp s₀ s₁ → Rv X s₁.heap v (.list (ks.map .str)) → Q' [v] s₁) → wpAny (model prog w) A (spliced (backTo cp (starEach [e] env))) Q' E s₀ :=
      fun Q' hQ => wpAny_items_cons (h env O A Y X ρ s₀ _ _ E R S₀ eg fun v s₁ K₁ r₁ => wpAny_items_nil (hQ v s₁ K₁ r₁)) (he env)
    rw [he env] at hmm ⊢
    refine callWith_of (P := fun h => h.get? a = some o) rfl (fun h e => keeper_fn e hd) ?_
    refine evalArgs_plain (hmm _ fun v s₁ K₁ r₁ => ?_)
    have S₁ := S₀.keeps K₁
    refine ⟨S₁.base _ _ ho, ?_⟩
    refine hc (PySem.strKind prog w) .str KT_str A X s₁ v ks _ _ R S₁.base S₁.dom S₁.old r₁ (by simpa using hl) fun b s₂ K₂ lo hD => ?_
    refine wpAny_items_nil ?_
    refine join_dict R.1 lo hD (by have := dedup_length ks []; simp at this hl; omega) hok fun s' t' K => ?_
    exact q _ s' (((K₀.trans K₁).trans K₂).trans K) (.str _ _)

end

/-! `sorted` of a text -/
noncomputable def leT (a b : Str) : Prop := a.cps.toList ≤ b.cps.toList
noncomputable def insS (x : Str) : List Str → List Str
  | [] => [x]
  | y :: r => if y.cps.toList < x.cps.toList then y :: insS x r else x :: y :: r
noncomputable def ssort : List Str → List Str
  | [] => []
  | x :: r => insS x (ssort r)
theorem insS_perm (x : Str) : ∀ l, (insS x l).Perm (x :: l)
  | [] => .refl _
  | y :: r => by
    unfold insS
    split
    · exact ((insS_perm x r).cons y).trans (.swap _ _ _)
    · exact .refl _
theorem ssort_perm : ∀ l, (ssort l).Perm l
  | [] => .refl _
  | x :: r => (insS_perm x _).trans ((ssort_perm r).cons x)
theorem insS_sorted (x : Str) : ∀ l : List Str, l.Pairwise leT → (insS x l).Pairwise leT
  | [], _ => by simp [insS]
  | y :: r, h => by
    rw [List.pairwise_cons] at h
    unfold insS
    split
    · rename_i hxy
      refine List.pairwise_cons.mpr ⟨fun z hz => ?_, insS_sorted x r h.2⟩
      rcases List.mem_cons.mp ((insS_perm x r).mem_iff.mp hz) with rfl | hz
      · exact (List.le_total _ _).resolve_right fun h' => h' hxy
      · exact h.1 z hz
    · rename_i hxy
      refine List.pairwise_cons.mpr ⟨fun z hz => ?_, List.pairwise_cons.mpr h⟩
      rcases List.mem_cons.mp hz with rfl | hz
      · exact hxy
      · exact List.le_trans (show x.cps.toList ≤ y.cps.toList from hxy) (h.1 z hz)
theorem ssort_sorted : ∀ l : List Str, (ssort l).Pairwise leT
  | [] => .nil
  | x :: r => insS_sorted x _ (ssort_sorted r)
theorem str_ext {a b : Str} (h : a.cps.toList = b.cps.toList) : a = b := by
  obtain ⟨a⟩ := a
  obtain ⟨b⟩ := b
  exact congrArg Str.mk (Array.toList_inj.mp h)
theorem ssort_unique {l m : List Str} (h : m.Perm l) (hs : m.Pairwise leT) : m = ssort l :=
  List.Perm.eq_of_pairwise (fun _ _ _ _ h1 h2 => str_ext (List.le_antisymm h1 h2)) hs (ssort_sorted l) (h.trans (ssort_perm l).symm)
theorem rising_pairwise : ∀ (l : List Str) (p : Str), risingS p l = true → (p :: l).Pairwise leT
  | [], p, _ => by simp
  | x :: r, p, h => by
    unfold risingS at h
    rw [Bool.and_eq_true, ltCps_eq, Bool.not_eq_true', decide_eq_false_iff_not] at h
    have ih := rising_pairwise r x h.2
    refine List.pairwise_cons.mpr ⟨fun z hz => ?_, ih⟩
    have h1 : p.cps.toList ≤ x.cps.toList := h.1
    rcases List.mem_cons.mp hz with rfl | hz
    · exact h1
    · exact List.le_trans h1 ((List.pairwise_cons.mp ih).1 z hz)
theorem sortedS_pairwise : ∀ l : List Str, sortedS l = true → l.Pairwise leT
  | [], _ => .nil
  | x :: r, h => rising_pairwise r x h
section
variable {prog : Program} {w : World} {A : Around} {E : Value → Shared → Prop} {s : Shared}
noncomputable def chars (x : Str) : List Str := x.cps.toList.map fun c => ⟨#[c]⟩
theorem call_sorted_str {x : Str} {t : Tok} {Q : Value → Shared → Prop} (hh : A.handled = none) (h64 : x.length < 64)
    (q : ∀ (a : Addr) (s' : Shared) (out : Array Value) (n : Nat), Kp s s' → s.heap.get? a = none → s'.heap.get? a = some { cls := .type "list", data := .seq out n } → StrsAre out.toList (ssort (chars x)) → Q (.ref a) s') :
    wpAny (model prog w) A (call (.builtin "sorted") [.str x t]) Q E s := by
  refine Calls.call_function_entry kind_sorted plain_sorted entry_sorted (args_sorted1 _) ?_
  unfold Builtin.«sorted»
  refine wpAny_bind (m := checkCount "sorted" 1 1 _) (wpAny_pure ?_)
  have hx : x.cps.size < 64 := h64
  refine wpAny_bind (wpAny_collect_str (A := A.in1) hh x t (fun s₁ acc hk hg hd ho hacc => ?_) (by rw [sizeLine_eq]; omega))
  have hvs : StrsAre acc.toList (chars x) := by
    have key : ∀ (l : List Value) (cs : List Nat), l.length = cs.length → (∀ (i : Nat) (v : Value), l[i]? = some v → ∃ c u, cs[i]? = some c ∧ v = .str ⟨#[c]⟩ u) → StrsAre l (cs.map fun c => ⟨#[c]⟩) := by
      intro l
      induction l with
      | nil => intro cs e _; cases cs with
        | nil => exact .nil
        | cons => cases e
      | cons v l ih =>
        intro cs e hx
        cases cs with
        | nil => cases e
        | cons c cs =>
          obtain ⟨c', u, e1, rfl⟩ := hx 0 v rfl
          simp at e1; subst e1
          exact .cons _ _ (ih cs (by simpa using e) fun i v hv => by simpa using hx (i + 1) v (by simpa using hv))
    refine key _ _ (by have := hacc.1; simpa using this) fun i v hv => ?_
    obtain ⟨c, u, e1, e2⟩ := hacc.2 i v (by simpa using hv)
    exact ⟨c, u, by simpa using e1, e2⟩
  have hlen : acc.toList.length = x.cps.size := by have := hacc.1; simpa using this
  have K₁ : Kp s s₁ := by
    refine ⟨⟨s₁.heap, s₁.toks, ?_⟩, hk⟩
    obtain ⟨h1, g1, d1, t1, o1⟩ := s₁
    obtain ⟨h0, g0, d0, t0, o0⟩ := s
    cases hg; cases hd; cases ho
    rfl
  refine wpAny_bind (wpAny_newList ?_ (by rw [hlen, sizeLine_eq]; omega))
  have hoL : (s₁.heap.push (seqObj "list" acc.toList.toArray 0)).get? s₁.heap.objs.size = some (seqObj "list" acc.toList.toArray 0) := Heap.get?_push_size _ rfl
  show wpAny _ _ _ _ _ { s₁ with heap := s₁.heap.push (seqObj "list" acc.toList.toArray 0) }
  refine wpAny_bind (wpAny_holding (wpAny_call_entry slot_list_sort ⟨_, hoL, rfl⟩ entry_list_sort (list_sort_treeK (vs := acc.toList) strKind_oneLt hoL hvs.keysOf (fun v₁ v₂ rest e => keyKind_strs (by rw [← e]; exact hvs)) (by omega) fun st' a1 a2 => ⟨_, rfl, ?_⟩) (args_list_sort _)))
  refine wpAny_pure ⟨_, rfl, ?_⟩
  obtain ⟨ss', h1, h2, h3⟩ := sorted_out_str hvs a1 a2
  obtain ⟨e₂, he₂⟩ := sortedHeap_at (vs := acc.toList) (out := (arrOf st').map (·.2)) hoL
  have hlow : ∀ b o, s₁.heap.get? b = some o → (sortedHeap (s₁.heap.push (seqObj "list" acc.toList.toArray 0)) s₁.heap.objs.size acc.toList ((arrOf st').map (·.2))).get? b = some o := by
    intro b o e
    have lt := Heap.lt_size e
    rw [sortedHeap_old (Nat.ne_of_lt lt) (by rw [Heap.size_push]; exact Nat.lt_succ_of_lt lt)]
    exact Heap.get?_push_of_some _ e
  refine q _ _ _ _ (K₁.trans (Kp.mk' hlow)) ?_ he₂ ?_
  · cases e : s.heap.get? s₁.heap.objs.size with
    | none => rfl
    | some o => exact absurd (Heap.lt_size (hk _ _ e)) (Nat.lt_irrefl _)
  · rw [← ssort_unique h2 (sortedS_pairwise _ h3)]
    exact h1
theorem strs_rvs {X : Addr → Prop} {h : Heap} : ∀ {vs : List Value} {ks : List Str}, StrsAre vs ks → Rvs X h vs (ks.map .str)
  | _, _, .nil => .nil
  | _, _, .cons n t r => .cons (.str n t) (strs_rvs r)
noncomputable def sortSD (f : Rho → Option PyData) (ρ : Rho) : Option PyData := match f ρ with
  | some (.str x) => if x.length < 64 then some (.list ((ssort (chars x)).map .str)) else none
  | _ => none
theorem R_sortedS {hb : Heap} {k : Nat} {Γ : Lay} {sc : Scope} {mg mb : Str → Option Value} {f : Rho → Option PyData} {e : Expr} {p pos : Pos} (G : GlobOk mg mb hb) (hk : isGlob sc "sorted" = true) (hn : mg "sorted" = none) (hv : mb "sorted" = some (.builtin "sorted")) (h : SimE prog w hb k Γ sc f e) (he : ∀ env, starEach [e] env = [(false, eval e env)]) :
    SimE prog w hb k Γ sc (sortSD f) (.Call (.Name "sorted" p) [e] [] pos) := by
  intro env O A Y X ρ s d Q E R S hf q
  unfold sortSD at hf
  split at hf
  case h_2 => cases hf
  rename_i x ef
  split at hf
  case isFalse => cases hf
  rename_i hl
  cases hf
  refine Call_ (load_blt G O S.base hk hn hv ?_) rfl
  rw [he env]
  refine callWith_builtin1 (h env O A Y X ρ s _ _ E R S ef fun v s₁ K₁ r₁ => ?_)
  cases r₁ with
  | str _ t =>
    refine call_sorted_str R.1 hl fun a s₂ out n K₂ hf2 ho hi => ?_
    refine q _ s₂ (K₁.trans K₂) (.list (fun x => ?_) ho rfl rfl (strs_rvs hi))
    obtain ⟨o', e'⟩ := (S.keeps K₁).dom _ x
    rw [hf2] at e'; cases e'
end
end Mine


namespace Mine
/-! lists compare item by item -/
noncomputable def atomEq : PyData → PyData → Option Bool
  | .int a, .int b => some (a == b)
  | .str a, .str b => some (decide (a = b))
  | _, _ => none
noncomputable def atomLt : PyData → PyData → Option Bool
  | .int a, .int b => some (decide (a < b))
  | .str a, .str b => some (decide (a.cps.toList < b.cps.toList))
  | _, _ => none
noncomputable def lexLt : List PyData → List PyData → Option Bool
  | [], [] => some false
  | [], _ :: _ => some true
  | _ :: _, [] => some false
  | x :: xs, y :: ys => match atomEq x y with
    | some true => lexLt xs ys
    | some false => atomLt x y
    | none => none
section
variable {prog : Program} {w : World} {A : Around} {E : Value → Shared → Prop} {s : Shared} {X : Addr → Prop}
theorem atom_eq {u v : Value} {a b : PyData} {c : Bool} {Q : Bool → Shared → Prop} (ra : Rv X s.heap u a) (rb : Rv X s.heap v b) (h : atomEq a b = some c) (q : Q c s) : wpAny (model prog w) A (eqBool u v) Q E s := by
  cases ra with
  | int i t => cases rb with
    | int j t' => cases h; exact wpAny_eqBool_int q
    | _ => cases h
  | str x t => cases rb with
    | str y t' => cases h; exact wpAny_eqBool_str q
    | _ => cases h
  | _ => cases h
theorem atom_lt {u v : Value} {a b : PyData} {c : Bool} {Q : Value → Shared → Prop} (ra : Rv X s.heap u a) (rb : Rv X s.heap v b) (h : atomLt a b = some c) (q : Q (.bool c) s) : wpAny (model prog w) A (compareOp .Lt u v) Q E s := by
  cases ra with
  | int i t => cases rb with
    | int j t' => cases h; exact PyProof.Rows.lt_int q
    | _ => cases h
  | str x t => cases rb with
    | str y t' => cases h; exact P.lt_str q
    | _ => cases h
  | _ => cases h
theorem lex_loop {a b : Addr} {xs ys : Array Value} {n m : Nat} {da db : List PyData} (k : Nat) :
    ∀ (i : Nat) (c : Bool) (A : Around) (s : Shared) (R : Result → Shared → Prop), s.heap.get? a = some { cls := .type "list", data := .seq xs n } → s.heap.get? b = some { cls := .type "list", data := .seq ys m } → Rvs X s.heap xs.toList da → Rvs X s.heap ys.toList db → xs.size - i = k → i ≤ xs.size → i ≤ ys.size →
      lexLt (da.drop i) (db.drop i) = some c → R (.ok (.ret (.bool c))) s →
      wpAny (model prog w) A.in1 (Builtin.«list.__eq__.loop» ⟨[.ref a, .ref b, rawInt i, rawInt 0], []⟩) (fun fin s' => match fin with | .done f => R (.ok f) s' | .again c' => c'.quiet = true ∧ codeAny (model prog w) A c' R s') (fun e s' => R (.error e) s') s := by
  induction k with
  | zero =>
    intro i c A s R hl hb ra rb hk ix iy hc h
    have l1 := ra.length
    have l2 := rb.length
    rw [Array.length_toList] at l1 l2
    obtain ⟨hp, g, d, tk, os⟩ := s
    wp_walk using AutoSeq1.wpAny_loadPart' hl, AutoSeq1.wpAny_loadPart' hb
    have hi1 : xs[((i : Nat) : Int).toNat]? = none := by simp; omega
    rw [hi1]
    wp_walk using AutoSeq1.wpAny_loadPart' hl, AutoSeq1.wpAny_loadPart' hb
    show R (.ok (.ret (.bool (decide (xs.size < ys.size))))) _
    have hd : da.drop i = [] := by rw [List.drop_eq_nil_iff]; omega
    rw [hd] at hc
    have : decide (xs.size < ys.size) = c := by
      cases e : db.drop i with
      | nil =>
        rw [e] at hc; cases hc
        rw [List.drop_eq_nil_iff] at e
        exact decide_eq_false (by omega)
      | cons y r =>
        rw [e] at hc; cases hc
        have : i < db.length := by
          rcases Nat.lt_or_ge i db.length with h | h
          · exact h
          · rw [List.drop_eq_nil_iff.mpr h] at e; cases e
        exact decide_eq_true (by omega)
    rw [this]; exact h
  | succ k ih =>
    intro i c A s R hl hb ra rb hk ix iy hc h
    have l1 := ra.length
    have l2 := rb.length
    rw [Array.length_toList] at l1 l2
    have hlt : i < xs.size := by omega
    have ea : da[i]? = some da[i] := List.getElem?_eq_getElem (by omega)
    obtain ⟨u, eu, ru⟩ := ra.get ea
    have eu' : xs[i]? = some u := by simpa using eu
    have da' : da.drop i = da[i] :: da.drop (i + 1) := List.drop_eq_getElem_cons (by omega)
    rcases Nat.lt_or_ge i ys.size with hlt2 | hge
    · have eb : db[i]? = some db[i] := List.getElem?_eq_getElem (by omega)
      obtain ⟨v, ev, rv⟩ := rb.get eb
      have ev' : ys[i]? = some v := by simpa using ev
      have db' : db.drop i = db[i] :: db.drop (i + 1) := List.drop_eq_getElem_cons (by omega)
      rw [da', db'] at hc
      unfold lexLt at hc
      have hcc : ((i : Int) + 1) = ((i + 1 : Nat) : Int) := by push_cast; rfl
      obtain ⟨hp, g, d, tk, os⟩ := s
      wp_walk using AutoSeq1.wpAny_loadPart' hl, AutoSeq1.wpAny_loadPart' hb
      have hi1 : xs[((i : Nat) : Int).toNat]? = some u := by simpa using eu'
      have hi2 : ys[((i : Nat) : Int).toNat]? = some v := by simpa using ev'
      rw [hi1, hi2]
      cases he : atomEq da[i] db[i] with
      | none => rw [he] at hc; cases hc
      | some t =>
        rw [he] at hc
        refine wpAny_bind (atom_eq ru rv he ?_)
        cases t with
        | true =>
          wp_walk
          rw [hcc]
          exact ⟨plainId_quiet MeetsSeq3.plain_eq_loop _, codeAny_builtin MeetsSeq3.entry_eq_loop (by
            rw [Around.under_plainId MeetsSeq3.plain_eq_loop _]
            exact ih (i + 1) c A _ R hl hb ra rb (by omega) hlt hlt2 hc h)⟩
        | false =>
          wp_walk using AutoSeq1.wpAny_loadPart' hl, AutoSeq1.wpAny_loadPart' hb
          rw [hi1, hi2]
          dsimp only at hc
          show wpAny _ _ (compareOp .Lt u v >>= fun r => ret r) _ _ _
          exact wpAny_bind (atom_lt ru rv hc (wpAny_pure h))
    · have hie : i = ys.size := by omega
      obtain ⟨hp, g, d, tk, os⟩ := s
      wp_walk using AutoSeq1.wpAny_loadPart' hl, AutoSeq1.wpAny_loadPart' hb
      have hi1 : xs[((i : Nat) : Int).toNat]? = some u := by simpa using eu'
      have hi2 : ys[((i : Nat) : Int).toNat]? = none := by simp; omega
      rw [hi1, hi2]
      wp_walk using AutoSeq1.wpAny_loadPart' hl, AutoSeq1.wpAny_loadPart' hb
      show R (.ok (.ret (.bool (decide (xs.size < ys.size))))) _
      have hd : db.drop i = [] := by rw [List.drop_eq_nil_iff]; omega
      rw [da', hd] at hc
      cases hc
      rw [decide_eq_false (by omega)]; exact h
theorem list_lt (X : Addr → Prop) (a b : Addr) (xs ys : Array Value) (n m : Nat) (da db : List PyData) (c : Bool) (hc : lexLt da db = some c) :
    Meets (Builtin.«list.__lt__» ⟨[.ref a, .ref b], []⟩) (fun _ R s => s.heap.get? a = some { cls := .type "list", data := .seq xs n } ∧ s.heap.get? b = some { cls := .type "list", data := .seq ys m } ∧ Rvs X s.heap xs.toList da ∧ Rvs X s.heap ys.toList db ∧ R (.ok (.ret (.bool c))) s) := by
  intro prog w A R s h
  obtain ⟨hp, g, d, tk, os⟩ := s; obtain ⟨hl, hb, ra, rb, h⟩ := h
  have f3 := AutoSeq1.sub_list_list
  wp_walk using AutoSeq1.wpAny_loadPart' hl, AutoSeq1.wpAny_loadPart' hb
  exact ⟨plainId_quiet MeetsSeq3.plain_eq_loop _, codeAny_builtin MeetsSeq3.entry_eq_loop (by
    rw [Around.under_plainId MeetsSeq3.plain_eq_loop _]
    exact lex_loop _ 0 c A _ R hl hb ra rb rfl (Nat.zero_le _) (Nat.zero_le _) hc h)⟩
theorem lex_list {a b : Addr} {xs ys : Array Value} {n m : Nat} {da db : List PyData} {c : Bool} {Q : Value → Shared → Prop} (hu : A.units < cLine) (hl : s.heap.get? a = some { cls := .type "list", data := .seq xs n }) (hb : s.heap.get? b = some { cls := .type "list", data := .seq ys m })
    (ra : Rvs X s.heap xs.toList da) (rb : Rvs X s.heap ys.toList db) (hc : lexLt da db = some c) (h : Q (.bool c) s) : wpAny (model prog w) A (compareOp .Lt (.ref a) (.ref b)) Q E s := by
  show wpAny _ _ (richCompare .Lt (.ref a) (.ref b)) _ _ _
  exact richCompare_meets_room (op := .Lt) ⟨_, hl, rfl⟩ ⟨_, hb, rfl⟩ PySem.F.slot_list_lt PySem.F.entry_list_lt (PySem.F.args_list_lt_2 _ _) (list_lt X a b xs ys n m da db c hc) ⟨hl, hb, ra, rb, (fun e => nomatch e), h⟩ hu
end
end Mine


namespace Mine
noncomputable def lexGt : List PyData → List PyData → Option Bool
  | [], [] => some false
  | [], _ :: _ => some false
  | _ :: _, [] => some true
  | x :: xs, y :: ys => match atomEq x y with
    | some true => lexGt xs ys
    | some false => atomLt y x
    | none => none
section
variable {prog : Program} {w : World} {A : Around} {E : Value → Shared → Prop} {s : Shared} {X : Addr → Prop}
theorem atom_gt {u v : Value} {a b : PyData} {c : Bool} {Q : Value → Shared → Prop} (ra : Rv X s.heap u a) (rb : Rv X s.heap v b) (h : atomLt b a = some c) (q : Q (.bool c) s) : wpAny (model prog w) A (compareOp .Gt u v) Q E s := by
  cases rb with
  | int i t => cases ra with
    | int j t' => cases h; exact PyProof.Rows.gt_int q
    | _ => cases h
  | str x t => cases ra with
    | str y t' => cases h; exact P.gt_str q
    | _ => cases h
  | _ => cases h
theorem lex_loopG {a b : Addr} {xs ys : Array Value} {n m : Nat} {da db : List PyData} (k : Nat) :
    ∀ (i : Nat) (c : Bool) (A : Around) (s : Shared) (R : Result → Shared → Prop), s.heap.get? a = some { cls := .type "list", data := .seq xs n } → s.heap.get? b = some { cls := .type "list", data := .seq ys m } → Rvs X s.heap xs.toList da → Rvs X s.heap ys.toList db → xs.size - i = k → i ≤ xs.size → i ≤ ys.size →
      lexGt (da.drop i) (db.drop i) = some c → R (.ok (.ret (.bool c))) s →
      wpAny (model prog w) A.in1 (Builtin.«list.__eq__.loop» ⟨[.ref a, .ref b, rawInt i, rawInt 4], []⟩) (fun fin s' => match fin with | .done f => R (.ok f) s' | .again c' => c'.quiet = true ∧ codeAny (model prog w) A c' R s') (fun e s' => R (.error e) s') s := by
  induction k with
  | zero =>
    intro i c A s R hl hb ra rb hk ix iy hc h
    have l1 := ra.length
    have l2 := rb.length
    rw [Array.length_toList] at l1 l2
    obtain ⟨hp, g, d, tk, os⟩ := s
    wp_walk using AutoSeq1.wpAny_loadPart' hl, AutoSeq1.wpAny_loadPart' hb
    have hi1 : xs[((i : Nat) : Int).toNat]? = none := by simp; omega
    rw [hi1]
    wp_walk using AutoSeq1.wpAny_loadPart' hl, AutoSeq1.wpAny_loadPart' hb
    show R (.ok (.ret (.bool (decide (xs.size > ys.size))))) _
    have hd : da.drop i = [] := by rw [List.drop_eq_nil_iff]; omega
    rw [hd] at hc
    have : decide (xs.size > ys.size) = c := by
      cases e : db.drop i with
      | nil =>
        rw [e] at hc; cases hc
        rw [List.drop_eq_nil_iff] at e
        exact decide_eq_false (by omega)
      | cons y r =>
        rw [e] at hc; cases hc
        have : i < db.length := by
          rcases Nat.lt_or_ge i db.length with h | h
          · exact h
          · rw [List.drop_eq_nil_iff.mpr h] at e; cases e
        exact decide_eq_false (by omega)
    rw [this]; exact h
  | succ k ih =>
    intro i c A s R hl hb ra rb hk ix iy hc h
    have l1 := ra.length
    have l2 := rb.length
    rw [Array.length_toList] at l1 l2
    have hlt : i < xs.size := by omega
    have ea : da[i]? = some da[i] := List.getElem?_eq_getElem (by omega)
    obtain ⟨u, eu, ru⟩ := ra.get ea
    have eu' : xs[i]? = some u := by simpa using eu
    have da' : da.drop i = da[i] :: da.drop (i + 1) := List.drop_eq_getElem_cons (by omega)
    rcases Nat.lt_or_ge i ys.size with hlt2 | hge
    · have eb : db[i]? = some db[i] := List.getElem?_eq_getElem (by omega)
      obtain ⟨v, ev, rv⟩ := rb.get eb
      have ev' : ys[i]? = some v := by simpa using ev
      have db' : db.drop i = db[i] :: db.drop (i + 1) := List.drop_eq_getElem_cons (by omega)
      rw [da', db'] at hc
      unfold lexGt at hc
      have hcc : ((i : Int) + 1) = ((i + 1 : Nat) : Int) := by push_cast; rfl
      obtain ⟨hp, g, d, tk, os⟩ := s
      wp_walk using AutoSeq1.wpAny_loadPart' hl, AutoSeq1.wpAny_loadPart' hb
      have hi1 : xs[((i : Nat) : Int).toNat]? = some u := by simpa using eu'
      have hi2 : ys[((i : Nat) : Int).toNat]? = some v := by simpa using ev'
      rw [hi1, hi2]
      cases he : atomEq da[i] db[i] with
      | none => rw [he] at hc; cases hc
      | some t =>
        rw [he] at hc
        refine wpAny_bind (atom_eq ru rv he ?_)
        cases t with
        | true =>
          wp_walk
          rw [hcc]
          exact ⟨plainId_quiet MeetsSeq3.plain_eq_loop _, codeAny_builtin MeetsSeq3.entry_eq_loop (by
            rw [Around.under_plainId MeetsSeq3.plain_eq_loop _]
            exact ih (i + 1) c A _ R hl hb ra rb (by omega) hlt hlt2 hc h)⟩
        | false =>
          wp_walk using AutoSeq1.wpAny_loadPart' hl, AutoSeq1.wpAny_loadPart' hb
          rw [hi1, hi2]
          dsimp only at hc
          show wpAny _ _ (compareOp .Gt u v >>= fun r => ret r) _ _ _
          exact wpAny_bind (atom_gt ru rv hc (wpAny_pure h))
    · have hie : i = ys.size := by omega
      obtain ⟨hp, g, d, tk, os⟩ := s
      wp_walk using AutoSeq1.wpAny_loadPart' hl, AutoSeq1.wpAny_loadPart' hb
      have hi1 : xs[((i : Nat) : Int).toNat]? = some u := by simpa using eu'
      have hi2 : ys[((i : Nat) : Int).toNat]? = none := by simp; omega
      rw [hi1, hi2]
      wp_walk using AutoSeq1.wpAny_loadPart' hl, AutoSeq1.wpAny_loadPart' hb
      show R (.ok (.ret (.bool (decide (xs.size > ys.size))))) _
      have hd : db.drop i = [] := by rw [List.drop_eq_nil_iff]; omega
      rw [da', hd] at hc
      cases hc
      rw [decide_eq_true (by omega)]; exact h
theorem list_gt (X : Addr → Prop) (a b : Addr) (xs ys : Array Value) (n m : Nat) (da db : List PyData) (c : Bool) (hc : lexGt da db = some c) :
    Meets (Builtin.«list.__gt__» ⟨[.ref a, .ref b], []⟩) (fun _ R s => s.heap.get? a = some { cls := .type "list", data := .seq xs n } ∧ s.heap.get? b = some { cls := .type "list", data := .seq ys m } ∧ Rvs X s.heap xs.toList da ∧ Rvs X s.heap ys.toList db ∧ R (.ok (.ret (.bool c))) s) := by
  intro prog w A R s h
  obtain ⟨hp, g, d, tk, os⟩ := s; obtain ⟨hl, hb, ra, rb, h⟩ := h
  have f3 := AutoSeq1.sub_list_list
  wp_walk using AutoSeq1.wpAny_loadPart' hl, AutoSeq1.wpAny_loadPart' hb
  exact ⟨plainId_quiet MeetsSeq3.plain_eq_loop _, codeAny_builtin MeetsSeq3.entry_eq_loop (by
    rw [Around.under_plainId MeetsSeq3.plain_eq_loop _]
    exact lex_loopG _ 0 c A _ R hl hb ra rb rfl (Nat.zero_le _) (Nat.zero_le _) hc h)⟩
theorem lex_listG {a b : Addr} {xs ys : Array Value} {n m : Nat} {da db : List PyData} {c : Bool} {Q : Value → Shared → Prop} (hu : A.units < cLine) (hl : s.heap.get? a = some { cls := .type "list", data := .seq xs n }) (hb : s.heap.get? b = some { cls := .type "list", data := .seq ys m })
    (ra : Rvs X s.heap xs.toList da) (rb : Rvs X s.heap ys.toList db) (hc : lexGt da db = some c) (h : Q (.bool c) s) : wpAny (model prog w) A (compareOp .Gt (.ref a) (.ref b)) Q E s := by
  show wpAny _ _ (richCompare .Gt (.ref a) (.ref b)) _ _ _
  exact richCompare_meets_room (op := .Gt) ⟨_, hl, rfl⟩ ⟨_, hb, rfl⟩ PySem.F.slot_list_gt PySem.F.entry_list_gt (PySem.F.args_list_gt_2 _ _) (list_gt X a b xs ys n m da db c hc) ⟨hl, hb, ra, rb, (fun e => nomatch e), h⟩ hu
end
end Mine


namespace Mine
section
variable {prog : Program} {w : World} {A : Around} {E : Value → Shared → Prop} {s : Shared}
/-- `min` of a list of two -/
theorem call_min2 {l : Addr} {u v : Value} {n : Nat} {c : Bool} {Q : Value → Shared → Prop} (hh : A.handled = none) (hl : s.heap.get? l = some { cls := .type "list", data := .seq #[u, v] n })
    (hc : ∀ (A' : Around) (s' : Shared) (Q' : Value → Shared → Prop) (E' : Value → Shared → Prop), A'.units ≤ A.units + 8 → (∀ b o, s.heap.get? b = some o → s'.heap.get? b = some o) → Q' (.bool c) s' → wpAny (model prog w) A' (richCompare .Lt v u) Q' E' s')
    (q : ∀ s', Kp s s' → Q (if c then v else u) s') : wpAny (model prog w) A (call (.builtin "min") [.ref l]) Q E s := by
  have hname : (toString "min" ++ toString ".loop" : String) = "min.loop" := by decide
  have hL : s.heap.IsList l #[u, v] := ⟨_, hl, rfl, n, rfl⟩
  have hlt := Heap.lt_size hl
  refine call_function_tree PySem.F.kind_min PySem.F.plain_min PySem.F.entry_min (PySem.F.args_min1 _) ?_
  show wpAny _ A.in1 (Builtin.Builtins.bindParams "min" ["key", "default"] 0 ⟨[], []⟩ >>= _) _ _ s
  refine wpAny_bind (wpAny_of_eq (show Builtin.Builtins.bindParams "min" ["key", "default"] 0 ⟨[], []⟩ = pure [none, none] from rfl) ?_)
  refine wpAny_bind (wpAny_pure ?_)
  refine wpAny_bind (wpAny_pyIter_list hL ?_)
  refine wpAny_bind (wpAny_newObj_type ?_)
  rw [hname]
  have hz1 := Heap.size_push s.heap { cls := .type "list_iterator", data := .fields #[.ref l, .int 0 0] }
  have W := Walks.list (prog := prog) (w := w) (A := A.in1) hh s.heap.objs.size l (Nat.ne_of_lt hlt) #[u, v]
  have W' := Walks.list (prog := prog) (w := w) (A := A) hh s.heap.objs.size l (Nat.ne_of_lt hlt) #[u, v]
  have hIl : s.heap.objs.size ≠ s.heap.objs.size + 1 := Nat.ne_of_lt (Nat.lt_succ_self _)
  have kp0 : ∀ b o, s.heap.get? b = some o → ((s.heap.push { cls := .type "list_iterator", data := .fields #[.ref l, .int 0 0] }).push { cls := .type "list", data := .seq ([] : List Value).toArray }).get? b = some o := fun b o e => Heap.get?_push_of_some _ (Heap.get?_push_of_some _ e)
  refine wpAny_pure ⟨plainId_quiet PySem.F.plain_min_loop _, codeAny_builtin PySem.F.entry_min_loop ?_⟩
  rw [Around.under_plainId PySem.F.plain_min_loop _]
  have hS : ((s.heap.push { cls := .type "list_iterator", data := .fields #[.ref l, .int 0 0] }).push { cls := .type "list", data := .seq ([] : List Value).toArray }).get? (s.heap.objs.size + 1) = some { cls := .type "list", data := .seq ([] : List Value).toArray } := by
    rw [← hz1]; exact Heap.get?_push_size _ rfl
  have hI : ((s.heap.push { cls := .type "list_iterator", data := .fields #[.ref l, .int 0 0] }).push { cls := .type "list", data := .seq ([] : List Value).toArray }).IsListIter s.heap.objs.size l 0 :=
    ⟨_, Heap.get?_push_of_some _ (Heap.get?_push_size _ rfl), rfl, rfl⟩
  rw [hz1]
  show wpAny _ A.in1 (seqItems? (.ref (s.heap.objs.size + 1)) >>= _) _ _ _
  refine wpAny_bind (wpAny_seqItems hS rfl ?_)
  show wpAny _ A.in1 (tryCatch (pyNext (.ref s.heap.objs.size)) _ >>= _) _ _ _
  refine wpAny_bind (wpAny_tryCatch (W.item 0 _ _ _ (by simp) ⟨hI, (hL.push _).push _⟩ fun v0 h1 t1 hv0 hst1 hk1 => ?_))
  have e0 : v0 = u := by simpa using hv0.symm
  subst e0
  have hS1 := hk1 _ _ (by simp) hS
  show wpAny _ A.in1 (updateSeq (s.heap.objs.size + 1) (fun _ => #[v0, v0]) >>= _) _ _ _
  refine wpAny_bind (wpAny_updateSeq hS1 rfl ?_)
  rw [hname]
  have hS2 := Heap.get?_update_self (Obj.mapSeq fun _ => #[v0, v0]) hS1 rfl
  have lS : l ≠ s.heap.objs.size + 1 := Nat.ne_of_lt (Nat.lt_succ_of_lt hlt)
  have up : ∀ {h : Heap} {f : Obj → Obj} (b : Addr) (o : Obj), b ≠ s.heap.objs.size + 1 → h.get? b = some o → (h.update (s.heap.objs.size + 1) f).get? b = some o := fun b o hb e => (Heap.get?_update_other _ _ (Ne.symm hb)).trans e
  have old1 : ∀ b o, s.heap.get? b = some o → h1.get? b = some o := fun b o e => hk1 b o (by simpa using Nat.ne_of_lt (Heap.lt_size e)) (kp0 b o e)
  have nS : ∀ b o, s.heap.get? b = some o → b ≠ s.heap.objs.size + 1 := fun b o e => Nat.ne_of_lt (Nat.lt_succ_of_lt (Heap.lt_size e))
  have fr : ∀ {i : Nat} {h : Heap} {f : Obj → Obj}, (h.IsListIter s.heap.objs.size l i ∧ h.IsList l #[v0, v]) → ((h.update (s.heap.objs.size + 1) f).IsListIter s.heap.objs.size l i ∧ (h.update (s.heap.objs.size + 1) f).IsList l #[v0, v]) := fun st => W.frame _ _ _ st fun b hb o e => by
    refine up b o ?_ e
    simp only [List.mem_cons, List.not_mem_nil, or_false] at hb
    rcases hb with rfl | rfl
    · exact hIl
    · exact lS
  -- the second round
  refine wpAny_pure ⟨plainId_quiet PySem.F.plain_min_loop _, codeAny_builtin PySem.F.entry_min_loop ?_⟩
  rw [Around.under_plainId PySem.F.plain_min_loop _]
  show wpAny _ A.in1 (seqItems? (.ref (s.heap.objs.size + 1)) >>= _) _ _ _
  refine wpAny_bind (wpAny_seqItems hS2 rfl ?_)
  show wpAny _ A.in1 (tryCatch (pyNext (.ref s.heap.objs.size)) _ >>= _) _ _ _
  refine wpAny_bind (wpAny_tryCatch (W.item 1 _ _ _ (by simp) (fr hst1) fun v1 h2 t2 hv1 hst2 hk2 => ?_))
  have e1 : v1 = v := by simpa using hv1.symm
  subst e1
  have hS3 := hk2 _ _ (by simp) hS2
  have old2 : ∀ b o, s.heap.get? b = some o → h2.get? b = some o := fun b o e => hk2 b o (by simpa using Nat.ne_of_lt (Heap.lt_size e)) (up b o (nS b o e) (old1 b o e))
  show wpAny _ A.in1 (tryCatch (holding [v1, v1] (richCompare .Lt v1 v0 >>= _)) _ >>= _) _ _ _
  refine wpAny_bind (wpAny_tryCatch (wpAny_holding (wpAny_bind (hc _ _ _ _ (by show A.units + 1 ≤ _; omega) old2 ?_))))
  refine wpAny_bind (wpAny_holding (wpAny_truthy_bool ?_))
  refine wpAny_bind (wpAny_letGo (wpAny_pure ?_))
  -- the end
  have fin : ∀ (x : Value) (h3 : Heap) (t3 n3 : Nat), (∀ b o, s.heap.get? b = some o → h3.get? b = some o) → h3.get? (s.heap.objs.size + 1) = some { cls := .type "list", dict := none, data := .seq #[x, x] n3, slots := #[] } → (h3.IsListIter s.heap.objs.size l 2 ∧ h3.IsList l #[v0, v1]) →
      (∀ s', Kp s s' → Q x s') → codeAny (model prog w) A (.builtin "min.loop" ⟨[.ref s.heap.objs.size, .none, .ref (s.heap.objs.size + 1)], []⟩) (fun r s' => match r with | .ok (.ret v) => Q v s' | .ok _ => False | .error e => E e s') { s with heap := h3, toks := t3 } := by
    intro x h3 t3 n3 old3 hS4 hst3 qx
    refine codeAny_builtin PySem.F.entry_min_loop ?_
    rw [Around.under_plainId PySem.F.plain_min_loop _]
    show wpAny _ A.in1 (seqItems? (.ref (s.heap.objs.size + 1)) >>= _) _ _ _
    refine wpAny_bind (wpAny_seqItems hS4 rfl ?_)
    show wpAny _ A.in1 (tryCatch (pyNext (.ref s.heap.objs.size)) _ >>= _) _ _ _
    refine wpAny_bind (wpAny_tryCatch (W.done { s with heap := h3, toks := t3 } _ _ hst3 fun h4 t4 hk4 => ?_))
    have hS5 := hk4 _ _ (by simp) hS4
    show wpAny _ A.in1 (updateSeq (s.heap.objs.size + 1) (fun _ => #[]) >>= _) _ _ _
    refine wpAny_bind (wpAny_updateSeq hS5 rfl (wpAny_bind (wpAny_letGo (wpAny_pure ?_))))
    exact qx _ (Kp.mk' fun b o e => up b o (nS b o e) (hk4 b o (by simpa using Nat.ne_of_lt (Heap.lt_size e)) (old3 b o e)))
  cases c with
  | true =>
    simp only [if_true]
    refine wpAny_bind (wpAny_updateSeq hS3 rfl (wpAny_bind (wpAny_letGo ?_)))
    rw [hname]
    refine wpAny_pure ⟨plainId_quiet PySem.F.plain_min_loop _, fin v1 _ _ _ (fun b o e => up b o (nS b o e) (old2 b o e)) (Heap.get?_update_self _ hS3 rfl) (fr hst2) q⟩
  | false =>
    simp only [Bool.false_eq_true, if_false]
    refine wpAny_bind (wpAny_letGo ?_)
    rw [hname]
    refine wpAny_pure ⟨plainId_quiet PySem.F.plain_min_loop _, fin v0 _ _ _ old2 hS3 hst2 q⟩
end
end Mine


namespace Mine
section
variable {prog : Program} {w : World} {A : Around} {E : Value → Shared → Prop} {s : Shared}
/-- `max` of a list of two -/
theorem call_max2 {l : Addr} {u v : Value} {n : Nat} {c : Bool} {Q : Value → Shared → Prop} (hh : A.handled = none) (hl : s.heap.get? l = some { cls := .type "list", data := .seq #[u, v] n })
    (hc : ∀ (A' : Around) (s' : Shared) (Q' : Value → Shared → Prop) (E' : Value → Shared → Prop), A'.units ≤ A.units + 8 → (∀ b o, s.heap.get? b = some o → s'.heap.get? b = some o) → Q' (.bool c) s' → wpAny (model prog w) A' (richCompare .Gt v u) Q' E' s')
    (q : ∀ s', Kp s s' → Q (if c then v else u) s') : wpAny (model prog w) A (call (.builtin "max") [.ref l]) Q E s := by
  have hname : (toString "max" ++ toString ".loop" : String) = "max.loop" := by decide
  have hL : s.heap.IsList l #[u, v] := ⟨_, hl, rfl, n, rfl⟩
  have hlt := Heap.lt_size hl
  refine call_function_tree PySem.F.kind_max PySem.F.plain_max PySem.F.entry_max (PySem.F.args_max1 _) ?_
  show wpAny _ A.in1 (Builtin.Builtins.bindParams "max" ["key", "default"] 0 ⟨[], []⟩ >>= _) _ _ s
  refine wpAny_bind (wpAny_of_eq (show Builtin.Builtins.bindParams "max" ["key", "default"] 0 ⟨[], []⟩ = pure [none, none] from rfl) ?_)
  refine wpAny_bind (wpAny_pure ?_)
  refine wpAny_bind (wpAny_pyIter_list hL ?_)
  refine wpAny_bind (wpAny_newObj_type ?_)
  rw [hname]
  have hz1 := Heap.size_push s.heap { cls := .type "list_iterator", data := .fields #[.ref l, .int 0 0] }
  have W := Walks.list (prog := prog) (w := w) (A := A.in1) hh s.heap.objs.size l (Nat.ne_of_lt hlt) #[u, v]
  have W' := Walks.list (prog := prog) (w := w) (A := A) hh s.heap.objs.size l (Nat.ne_of_lt hlt) #[u, v]
  have hIl : s.heap.objs.size ≠ s.heap.objs.size + 1 := Nat.ne_of_lt (Nat.lt_succ_self _)
  have kp0 : ∀ b o, s.heap.get? b = some o → ((s.heap.push { cls := .type "list_iterator", data := .fields #[.ref l, .int 0 0] }).push { cls := .type "list", data := .seq ([] : List Value).toArray }).get? b = some o := fun b o e => Heap.get?_push_of_some _ (Heap.get?_push_of_some _ e)
  refine wpAny_pure ⟨plainId_quiet PySem.F.plain_max_loop _, codeAny_builtin PySem.F.entry_max_loop ?_⟩
  rw [Around.under_plainId PySem.F.plain_max_loop _]
  have hS : ((s.heap.push { cls := .type "list_iterator", data := .fields #[.ref l, .int 0 0] }).push { cls := .type "list", data := .seq ([] : List Value).toArray }).get? (s.heap.objs.size + 1) = some { cls := .type "list", data := .seq ([] : List Value).toArray } := by
    rw [← hz1]; exact Heap.get?_push_size _ rfl
  have hI : ((s.heap.push { cls := .type "list_iterator", data := .fields #[.ref l, .int 0 0] }).push { cls := .type "list", data := .seq ([] : List Value).toArray }).IsListIter s.heap.objs.size l 0 :=
    ⟨_, Heap.get?_push_of_some _ (Heap.get?_push_size _ rfl), rfl, rfl⟩
  rw [hz1]
  show wpAny _ A.in1 (seqItems? (.ref (s.heap.objs.size + 1)) >>= _) _ _ _
  refine wpAny_bind (wpAny_seqItems hS rfl ?_)
  show wpAny _ A.in1 (tryCatch (pyNext (.ref s.heap.objs.size)) _ >>= _) _ _ _
  refine wpAny_bind (wpAny_tryCatch (W.item 0 _ _ _ (by simp) ⟨hI, (hL.push _).push _⟩ fun v0 h1 t1 hv0 hst1 hk1 => ?_))
  have e0 : v0 = u := by simpa using hv0.symm
  subst e0
  have hS1 := hk1 _ _ (by simp) hS
  show wpAny _ A.in1 (updateSeq (s.heap.objs.size + 1) (fun _ => #[v0, v0]) >>= _) _ _ _
  refine wpAny_bind (wpAny_updateSeq hS1 rfl ?_)
  rw [hname]
  have hS2 := Heap.get?_update_self (Obj.mapSeq fun _ => #[v0, v0]) hS1 rfl
  have lS : l ≠ s.heap.objs.size + 1 := Nat.ne_of_lt (Nat.lt_succ_of_lt hlt)
  have up : ∀ {h : Heap} {f : Obj → Obj} (b : Addr) (o : Obj), b ≠ s.heap.objs.size + 1 → h.get? b = some o → (h.update (s.heap.objs.size + 1) f).get? b = some o := fun b o hb e => (Heap.get?_update_other _ _ (Ne.symm hb)).trans e
  have old1 : ∀ b o, s.heap.get? b = some o → h1.get? b = some o := fun b o e => hk1 b o (by simpa using Nat.ne_of_lt (Heap.lt_size e)) (kp0 b o e)
  have nS : ∀ b o, s.heap.get? b = some o → b ≠ s.heap.objs.size + 1 := fun b o e => Nat.ne_of_lt (Nat.lt_succ_of_lt (Heap.lt_size e))
  have fr : ∀ {i : Nat} {h : Heap} {f : Obj → Obj}, (h.IsListIter s.heap.objs.size l i ∧ h.IsList l #[v0, v]) → ((h.update (s.heap.objs.size + 1) f).IsListIter s.heap.objs.size l i ∧ (h.update (s.heap.objs.size + 1) f).IsList l #[v0, v]) := fun st => W.frame _ _ _ st fun b hb o e => by
    refine up b o ?_ e
    simp only [List.mem_cons, List.not_mem_nil, or_false] at hb
    rcases hb with rfl | rfl
    · exact hIl
    · exact lS
  -- the second round
  refine wpAny_pure ⟨plainId_quiet PySem.F.plain_max_loop _, codeAny_builtin PySem.F.entry_max_loop ?_⟩
  rw [Around.under_plainId PySem.F.plain_max_loop _]
  show wpAny _ A.in1 (seqItems? (.ref (s.heap.objs.size + 1)) >>= _) _ _ _
  refine wpAny_bind (wpAny_seqItems hS2 rfl ?_)
  show wpAny _ A.in1 (tryCatch (pyNext (.ref s.heap.objs.size)) _ >>= _) _ _ _
  refine wpAny_bind (wpAny_tryCatch (W.item 1 _ _ _ (by simp) (fr hst1) fun v1 h2 t2 hv1 hst2 hk2 => ?_))
  have e1 : v1 = v := by simpa using hv1.symm
  subst e1
  have hS3 := hk2 _ _ (by simp) hS2
  have old2 : ∀ b o, s.heap.get? b = some o → h2.get? b = some o := fun b o e => hk2 b o (by simpa using Nat.ne_of_lt (Heap.lt_size e)) (up b o (nS b o e) (old1 b o e))
  show wpAny _ A.in1 (tryCatch (holding [v1, v1] (richCompare .Gt v1 v0 >>= _)) _ >>= _) _ _ _
  refine wpAny_bind (wpAny_tryCatch (wpAny_holding (wpAny_bind (hc _ _ _ _ (by show A.units + 1 ≤ _; omega) old2 ?_))))
  refine wpAny_bind (wpAny_holding (wpAny_truthy_bool ?_))
  refine wpAny_bind (wpAny_letGo (wpAny_pure ?_))
  -- the end
  have fin : ∀ (x : Value) (h3 : Heap) (t3 n3 : Nat), (∀ b o, s.heap.get? b = some o → h3.get? b = some o) → h3.get? (s.heap.objs.size + 1) = some { cls := .type "list", dict := none, data := .seq #[x, x] n3, slots := #[] } → (h3.IsListIter s.heap.objs.size l 2 ∧ h3.IsList l #[v0, v1]) →
      (∀ s', Kp s s' → Q x s') → codeAny (model prog w) A (.builtin "max.loop" ⟨[.ref s.heap.objs.size, .none, .ref (s.heap.objs.size + 1)], []⟩) (fun r s' => match r with | .ok (.ret v) => Q v s' | .ok _ => False | .error e => E e s') { s with heap := h3, toks := t3 } := by
    intro x h3 t3 n3 old3 hS4 hst3 qx
    refine codeAny_builtin PySem.F.entry_max_loop ?_
    rw [Around.under_plainId PySem.F.plain_max_loop _]
    show wpAny _ A.in1 (seqItems? (.ref (s.heap.objs.size + 1)) >>= _) _ _ _
    refine wpAny_bind (wpAny_seqItems hS4 rfl ?_)
    show wpAny _ A.in1 (tryCatch (pyNext (.ref s.heap.objs.size)) _ >>= _) _ _ _
    refine wpAny_bind (wpAny_tryCatch (W.done { s with heap := h3, toks := t3 } _ _ hst3 fun h4 t4 hk4 => ?_))
    have hS5 := hk4 _ _ (by simp) hS4
    show wpAny _ A.in1 (updateSeq (s.heap.objs.size + 1) (fun _ => #[]) >>= _) _ _ _
    refine wpAny_bind (wpAny_updateSeq hS5 rfl (wpAny_bind (wpAny_letGo (wpAny_pure ?_))))
    exact qx _ (Kp.mk' fun b o e => up b o (nS b o e) (hk4 b o (by simpa using Nat.ne_of_lt (Heap.lt_size e)) (old3 b o e)))
  cases c with
  | true =>
    simp only [if_true]
    refine wpAny_bind (wpAny_updateSeq hS3 rfl (wpAny_bind (wpAny_letGo ?_)))
    rw [hname]
    refine wpAny_pure ⟨plainId_quiet PySem.F.plain_max_loop _, fin v1 _ _ _ (fun b o e => up b o (nS b o e) (old2 b o e)) (Heap.get?_update_self _ hS3 rfl) (fr hst2) q⟩
  | false =>
    simp only [Bool.false_eq_true, if_false]
    refine wpAny_bind (wpAny_letGo ?_)
    rw [hname]
    refine wpAny_pure ⟨plainId_quiet PySem.F.plain_max_loop _, fin v0 _ _ _ old2 hS3 hst2 q⟩
noncomputable def minD (f : Rho → Option PyData) (ρ : Rho) : Option PyData := match f ρ with
  | some (.list [.list a, .list b]) => (lexLt b a).map fun c => .list (if c then b else a)
  | _ => none
theorem R_min {hb : Heap} {k : Nat} {Γ : Lay} {sc : Scope} {mg mb : Str → Option Value} {f : Rho → Option PyData} {e : Expr} {p pos : Pos} (G : GlobOk mg mb hb) (hk : isGlob sc "min" = true) (hn : mg "min" = none) (hv : mb "min" = some (.builtin "min")) (h : SimE prog w hb k Γ sc f e) (he : ∀ env, starEach [e] env = [(false, eval e env)]) :
    SimE prog w hb k Γ sc (minD f) (.Call (.Name "min" p) [e] [] pos) := by
  intro env O A Y X ρ s d Q E R S hf q
  unfold minD at hf
  split at hf
  case h_2 => cases hf
  rename_i a b ef
  cases el : lexLt b a with
  | none => rw [el] at hf; cases hf
  | some c =>
    rw [el] at hf
    cases hf
    refine Call_ (load_blt G O S.base hk hn hv ?_) rfl
    rw [he env]
    refine callWith_builtin1 (h env O A Y X ρ s _ _ E R S ef fun v s₁ K₁ r₁ => ?_)
    obtain ⟨l, o, vs, n, rfl, xa, e, co, dt, r⟩ := r₁.list_inv
    obtain ⟨vl⟩ := vs
    cases r with
    | cons r1 r2 =>
      cases r2 with
      | cons r2 r3 =>
        cases r3
        refine call_min2 R.1 (by rw [e, co]) (c := c) (fun A' s' Q' E' hu hk' q' => ?_) fun s' K => ?_
        · obtain ⟨l1, o1, vs1, n1, rfl, x1, e1, c1, dt1, r1⟩ := r1.list_inv
          obtain ⟨l2, o2, vs2, n2, rfl, x2, e2, c2, dt2, r2⟩ := r2.list_inv
          have hu' := R.2.2
          exact lex_list (by omega) (by rw [hk' _ _ e2, c2]) (by rw [hk' _ _ e1, c1]) (r2.keeps hk') (r1.keeps hk') el q'
        · cases c with
          | true => exact q _ s' (K₁.trans K) (r2.keeps K.get)
          | false => exact q _ s' (K₁.trans K) (r1.keeps K.get)
noncomputable def maxD (f : Rho → Option PyData) (ρ : Rho) : Option PyData := match f ρ with
  | some (.list [.list a, .list b]) => (lexGt b a).map fun c => .list (if c then b else a)
  | _ => none
theorem R_max {hb : Heap} {k : Nat} {Γ : Lay} {sc : Scope} {mg mb : Str → Option Value} {f : Rho → Option PyData} {e : Expr} {p pos : Pos} (G : GlobOk mg mb hb) (hk : isGlob sc "max" = true) (hn : mg "max" = none) (hv : mb "max" = some (.builtin "max")) (h : SimE prog w hb k Γ sc f e) (he : ∀ env, starEach [e] env = [(false, eval e env)]) :
    SimE prog w hb k Γ sc (maxD f) (.Call (.Name "max" p) [e] [] pos) := by
  intro env O A Y X ρ s d Q E R S hf q
  unfold maxD at hf
  split at hf
  case h_2 => cases hf
  rename_i a b ef
  cases el : lexGt b a with
  | none => rw [el] at hf; cases hf
  | some c =>
    rw [el] at hf
    cases hf
    refine Call_ (load_blt G O S.base hk hn hv ?_) rfl
    rw [he env]
    refine callWith_builtin1 (h env O A Y X ρ s _ _ E R S ef fun v s₁ K₁ r₁ => ?_)
    obtain ⟨l, o, vs, n, rfl, xa, e, co, dt, r⟩ := r₁.list_inv
    obtain ⟨vl⟩ := vs
    cases r with
    | cons r1 r2 =>
      cases r2 with
      | cons r2 r3 =>
        cases r3
        refine call_max2 R.1 (by rw [e, co]) (c := c) (fun A' s' Q' E' hu hk' q' => ?_) fun s' K => ?_
        · obtain ⟨l1, o1, vs1, n1, rfl, x1, e1, c1, dt1, r1⟩ := r1.list_inv
          obtain ⟨l2, o2, vs2, n2, rfl, x2, e2, c2, dt2, r2⟩ := r2.list_inv
          have hu' := R.2.2
          exact lex_listG (by omega) (by rw [hk' _ _ e2, c2]) (by rw [hk' _ _ e1, c1]) (r2.keeps hk') (r1.keeps hk') el q'
        · cases c with
          | true => exact q _ s' (K₁.trans K) (r2.keeps K.get)
          | false => exact q _ s' (K₁.trans K) (r1.keeps K.get)
end
end Mine


namespace Mine
/-! `map(f, xs)` -/
theorem mro_map : mroOf (.type "map") = pure [.type "map", .type "object"] := by rw [mroOf_type]; kernel_rfl
theorem lookup_map_new : typeLookup (.type "map") "__new__" = pure (some (.builtin "map.__new__")) := by rw [typeLookup_type, builtinLookup_eq_fast]; kernel_rfl
theorem slot_map_init : Slot "map" "__init__" "object.__init__" :=
  .of (owner := "object") (n := "__init__") (by rw [typeLookup_type, builtinLookup_eq_fast]; kernel_rfl) (by decide +kernel) (by decide +kernel) (by decide +kernel)
    (by first | exact .inl (by decide +kernel) | exact .inr (by decide +kernel)) (by rw [isSubtype_type]; kernel_rfl)
theorem called_map : TypeCalled "map" "map.__new__" "object.__init__" :=
  ⟨by decide +kernel, by decide +kernel, ⟨_, _, mro_map⟩, madeBy_type mro_map lookup_map_new (by decide +kernel), by decide +kernel, by rw [isSubtype_type]; kernel_rfl, slot_map_init⟩
theorem typeCall_map_2 (a b : Value) : checkTypeCall "map" ⟨[a, b], []⟩ = pure () := by kernel_rfl
theorem newCall_map_2 (a b : Value) : checkBuiltinCall "map.__new__" ⟨[.type "map", a, b], []⟩ = pure () := by kernel_rfl
theorem entry_map_new : entryFor table "map.__new__" = some Builtin.«map.__new__» := entryFor_of_tree (by kernel_rfl)
theorem sub_map : isSubtype (.type "map") (.type "map") = pure true := by rw [isSubtype_type]; kernel_rfl
theorem args_object_init_3 (a b c : Value) : argsOk "object.__init__" ⟨[a, b, c], []⟩ := by unfold argsOk; kernel_rfl
noncomputable def mapHeap (h : Heap) (f : Value) (l : Addr) : Heap := ((h.push { cls := .type "list_iterator", data := .fields #[.ref l, .int 0 0] }).push { cls := .type "tuple", data := .seq [Value.ref h.objs.size].toArray }).push { cls := .type "map", data := .fields [Value.ref (h.objs.size + 1), f].toArray }
theorem map_new (f : Value) (l : Addr) (items : Array Value) (n : Nat) :
    Meets (Builtin.«map.__new__» ⟨[.type "map", f, .ref l], []⟩) (fun _ R s => s.heap.get? l = some { cls := .type "list", data := .seq items n } ∧ R (.ok (.ret (.ref (s.heap.objs.size + 2)))) { s with heap := mapHeap s.heap f l }) :=
  .of_wp fun prog w A R s h => by
    obtain ⟨hp, g, d, tk, os⟩ := s; obtain ⟨hl, h⟩ := h
    have hsub := sub_map
    have hL : Heap.IsList (Shared.heap ⟨hp, g, d, tk, os⟩) l items := ⟨_, hl, rfl, n, rfl⟩
    wp_walk using AutoSeq1.wpAny_loadPart' hl, wpAny_pyIter_list hL
    refine ⟨_, rfl, ?_⟩
    simp only [Heap.size_push]
    exact h
section
variable {prog : Program} {w : World} {A : Around} {E : Value → Shared → Prop} {s : Shared}
theorem mapHeap_old {h : Heap} {f : Value} {l : Addr} (b : Addr) (o : Obj) (e : h.get? b = some o) : (mapHeap h f l).get? b = some o :=
  Heap.get?_push_of_some _ (Heap.get?_push_of_some _ (Heap.get?_push_of_some _ e))
theorem mapHeap_at (h : Heap) (f : Value) (l : Addr) : (mapHeap h f l).get? (h.objs.size + 2) = some { cls := .type "map", data := .fields [Value.ref (h.objs.size + 1), f].toArray } := by
  have e : ((h.push { cls := .type "list_iterator", data := .fields #[.ref l, .int 0 0] }).push { cls := .type "tuple", data := .seq [Value.ref h.objs.size].toArray }).objs.size = h.objs.size + 2 := by rw [Heap.size_push, Heap.size_push]
  rw [← e]; exact Heap.get?_push_size _ rfl
theorem mapHeap_its (h : Heap) (f : Value) (l : Addr) : (mapHeap h f l).get? (h.objs.size + 1) = some { cls := .type "tuple", data := .seq [Value.ref h.objs.size].toArray } := by
  have e : (h.push { cls := .type "list_iterator", data := .fields #[.ref l, .int 0 0] }).objs.size = h.objs.size + 1 := Heap.size_push ..
  refine Heap.get?_push_of_some _ ?_
  rw [← e]; exact Heap.get?_push_size _ rfl
theorem mapHeap_it (h : Heap) (f : Value) (l : Addr) : (mapHeap h f l).get? h.objs.size = some { cls := .type "list_iterator", data := .fields #[.ref l, .int 0 0] } :=
  Heap.get?_push_of_some _ (Heap.get?_push_of_some _ (Heap.get?_push_size _ rfl))
theorem call_map {f : Value} {l : Addr} {items : Array Value} {n : Nat} {Q : Value → Shared → Prop} (hl : s.heap.get? l = some { cls := .type "list", data := .seq items n })
    (h : Q (.ref (s.heap.objs.size + 2)) { s with heap := mapHeap s.heap f l }) : wpAny (model prog w) A (call (.type "map") [f, .ref l]) Q E s :=
  callType_new called_map (by decide) (typeCall_map_2 _ _) (newCall_map_2 _ _) (fun obj => args_object_init_3 obj _ _) entry_map_new (map_new f l items n) ⟨hl, ⟨_, mapHeap_at _ _ _, rfl⟩, h⟩
end
end Mine


namespace Mine
theorem slot_map_next : Slot "map" "__next__" "map.__next__" :=
  .of (owner := "map") (n := "__next__") (by rw [typeLookup_type, builtinLookup_eq_fast]; kernel_rfl) (by decide +kernel) (by decide +kernel) (by decide +kernel)
    (by first | exact .inl (by decide +kernel) | exact .inr (by decide +kernel)) (by rw [isSubtype_type]; kernel_rfl)
theorem entry_map_next : entryFor table "map.__next__" = some Builtin.«map.__next__» := entryFor_of_tree (by kernel_rfl)
theorem args_map_next (a : Value) : argsOk "map.__next__" ⟨[a], []⟩ := by unfold argsOk; kernel_rfl
section
variable {prog : Program} {w : World} {A : Around} {E : Value → Shared → Prop} {s : Shared}
theorem pyNext_map_item {mo its it l : Addr} {f x : Value} {items : Array Value} {i : Nat} {Q : Option Value → Shared → Prop} (hm : s.heap.get? mo = some { cls := .type "map", data := .fields [Value.ref its, f].toArray }) (ht : s.heap.get? its = some { cls := .type "tuple", data := .seq [Value.ref it].toArray })
    (hit : s.heap.IsListIter it l i) (hl : s.heap.IsList l items) (hx : items[i]? = some x) (h1 : its ≠ it) (h2 : mo ≠ it)
    (hc : ∀ h', h'.IsListIter it l (i + 1) → Heap.SameBut it s.heap h' → wpAny (model prog w) A.in1 (call f [x]) (fun v s' => Q (some v) s') (fun e s' => False) { s with heap := h' }) : wpAny (model prog w) A (pyNext (.ref mo)) Q E s := by
  unfold pyNext
  refine wpAny_bind (wpAny_attempt (wpAny_callSpecial?_slot (name := Str.ofString "__next__") ⟨_, hm, rfl⟩ slot_map_next
    (wpAny_call_entry slot_map_next ⟨_, hm, rfl⟩ entry_map_next ?_ (args_map_next _))))
  show wpAny _ _ (field (.ref mo) 0 >>= _) _ _ s
  refine wpAny_bind (wpAny_field hm rfl (x := .ref its) rfl ?_)
  show wpAny _ _ (seqItems? (.ref its) >>= _) _ _ s
  refine wpAny_bind (wpAny_seqItems ht rfl ?_)
  simp only [← Array.forIn_toList, List.forIn_cons, List.forIn_nil]
  refine wpAny_bind (wpAny_bind (wpAny_bind (wpAny_holding (wpAny_nextOf_list_item hit hl hx fun h' hit' hs' => wpAny_pure ?_))))
  refine wpAny_pure ?_
  have hm' : h'.get? mo = some { cls := .type "map", data := .fields [Value.ref its, f].toArray } := hs'.extBut _ _ h2 hm
  show wpAny _ _ (field (.ref mo) 1 >>= _) _ _ _
  refine wpAny_bind (wpAny_field (s := { s with heap := h' }) hm' rfl (x := f) rfl ?_)
  refine wpAny_bind (wpAny_holding ?_)
  refine wpAny_mono (hc h' hit' hs') (fun v s' hq => ?_) fun e s' hf => hf.elim
  exact wpAny_bind (wpAny_letGo (wpAny_pure ⟨v, rfl, wpAny_pure hq⟩))
theorem pyNext_map_end {mo its it l : Addr} {f : Value} {items : Array Value} {i : Nat} {Q : Option Value → Shared → Prop} (hh : A.handled = none) (hm : s.heap.get? mo = some { cls := .type "map", data := .fields [Value.ref its, f].toArray }) (ht : s.heap.get? its = some { cls := .type "tuple", data := .seq [Value.ref it].toArray })
    (hit : s.heap.IsListIter it l i) (hl : s.heap.IsList l items) (hx : items[i]? = none)
    (hQ : ∀ h', Heap.ExtBut it s.heap h' → Q none { s with heap := h' }) : wpAny (model prog w) A (pyNext (.ref mo)) Q E s := by
  unfold pyNext
  refine wpAny_bind (wpAny_attempt (wpAny_callSpecial?_slot (name := Str.ofString "__next__") ⟨_, hm, rfl⟩ slot_map_next
    (wpAny_call_entry slot_map_next ⟨_, hm, rfl⟩ entry_map_next ?_ (args_map_next _))))
  show wpAny _ _ (field (.ref mo) 0 >>= _) _ _ s
  refine wpAny_bind (wpAny_field hm rfl (x := .ref its) rfl ?_)
  show wpAny _ _ (seqItems? (.ref its) >>= _) _ _ s
  refine wpAny_bind (wpAny_seqItems ht rfl ?_)
  simp only [← Array.forIn_toList, List.forIn_cons, List.forIn_nil]
  refine wpAny_bind (wpAny_bind (wpAny_bind (wpAny_holding (wpAny_nextOf_list_end (A := A.in1) hh hit hl hx fun h' e hx' he => ?_))))
  obtain ⟨o, ho, hoc⟩ := he
  refine wpAny_bind (wpAny_isInstance (T := "StopIteration") (b := true) ⟨o, ho, hoc⟩ isSubtype_stop ?_)
  exact wpAny_pure (hQ h' hx')
end
end Mine


namespace Mine
theorem nolen_map : typeLookup (.type "map") "__len__" = pure none := by rw [typeLookup_type, builtinLookup_eq_fast]; kernel_rfl
theorem nohint_map : typeLookup (.type "map") "__length_hint__" = pure none := by rw [typeLookup_type, builtinLookup_eq_fast]; kernel_rfl
theorem slot_map_iter : Slot "map" "__iter__" "map.__iter__" :=
  .of (owner := "map") (n := "__iter__") (by rw [typeLookup_type, builtinLookup_eq_fast]; kernel_rfl) (by decide +kernel) (by decide +kernel) (by decide +kernel)
    (by first | exact .inl (by decide +kernel) | exact .inr (by decide +kernel)) (by rw [isSubtype_type]; kernel_rfl)
theorem entry_map_iter : entryFor table "map.__iter__" = some Builtin.«dict_keyiterator.__iter__» :=
  entryFor_alias (id' := "dict_keyiterator.__iter__") (by kernel_rfl) (by first | rfl | decide +kernel | (unfold String.splitOn; simp +decide [String.splitOnAux])) (by decide +kernel) (by kernel_rfl)
theorem args_map_iter (a : Value) : argsOk "map.__iter__" ⟨[a], []⟩ := by unfold argsOk; kernel_rfl
section
variable {prog : Program} {w : World} {A : Around} {E : Value → Shared → Prop} {s : Shared}
theorem pyIter_map {mo : Addr} {vs : Array Value} {Q : Value → Shared → Prop} (hm : s.heap.get? mo = some { cls := .type "map", data := .fields vs }) (h : Q (.ref mo) s) : wpAny (model prog w) A (pyIter (.ref mo)) Q E s := by
  have hT : s.TypeIs (.ref mo) "map" := ⟨_, hm, rfl⟩
  refine wpAny_pyIter_slot hT slot_map_iter (wpAny_call_entry slot_map_iter hT entry_map_iter ?_ (args_map_iter _))
  show wpAny _ _ (ret (.ref mo)) _ _ s
  exact wpAny_pure ⟨_, rfl, "map", _, hT, slot_map_next.lookup, h⟩
/-- the walk of a map over a list: `fb` the objects that the function needs -/
theorem walks_map {mo its it l : Addr} {f : Value} {items : Array Value} {P : Nat → Value → Prop} {fb : List Addr} {Base : Heap → Prop} (hh : A.handled = none) (h1 : its ≠ it) (h2 : mo ≠ it) (h3 : l ≠ it) (hfb : it ∉ fb)
    (hB : ∀ h h', Base h → (∀ b ∈ fb, ∀ o, h.get? b = some o → h'.get? b = some o) → Base h')
    (hc : ∀ i x (s : Shared) (Q : Value → Shared → Prop) (E : Value → Shared → Prop), items[i]? = some x → Base s.heap → (∀ v h' tk, P i v → (∀ b o, s.heap.get? b = some o → h'.get? b = some o) → Q v { s with heap := h', toks := tk }) → wpAny (model prog w) A.in1 (call f [x]) Q E s) :
    Walks prog w A mo (mo :: its :: it :: l :: fb) [it] items.size P (fun i h => (h.get? mo = some { cls := .type "map", data := .fields [Value.ref its, f].toArray } ∧ h.get? its = some { cls := .type "tuple", data := .seq [Value.ref it].toArray }) ∧ (h.IsListIter it l i ∧ h.IsList l items) ∧ Base h) where
  sub := fun b hb => by rw [List.mem_singleton.mp hb]; simp
  frame := fun i h h' st hk => ⟨⟨hk _ (by simp) _ st.1.1, hk _ (by simp) _ st.1.2⟩, ⟨st.2.1.1.at fun o e => hk _ (by simp) o e, st.2.1.2.at fun o e => hk _ (by simp) o e⟩, hB _ _ st.2.2 fun b hb o e => hk b (by simp [hb]) o e⟩
  item := fun i s Q E hi st hQ => by
    obtain ⟨⟨m1, m2⟩, ⟨m3, m4⟩, m5⟩ := st
    refine pyNext_map_item m1 m2 m3 m4 (x := items[i]) (by simp [hi]) h1 h2 fun h' hit' hs' => ?_
    refine hc i items[i] { s with heap := h' } _ _ (by simp [hi]) (hB _ _ m5 fun b hb o e => hs'.extBut b o (fun q => hfb (q ▸ hb)) e) fun v h'' tk hv hk => ?_
    refine hQ v h'' tk hv ⟨⟨hk _ _ (hs'.extBut _ _ h2 m1), hk _ _ (hs'.extBut _ _ h1 m2)⟩, ⟨hit'.at fun o e => hk _ o e, (m4.extBut hs'.extBut h3).at fun o e => hk _ o e⟩, hB _ _ m5 fun b hb o e => hk b o (hs'.extBut b o (fun q => hfb (q ▸ hb)) e)⟩ fun b o hb e => hk b o (hs'.extBut b o (by simpa using hb) e)
  done := fun s Q E st hQ => by
    obtain ⟨⟨m1, m2⟩, ⟨m3, m4⟩, m5⟩ := st
    exact pyNext_map_end hh m1 m2 m3 m4 (by simp) fun h' he' => hQ h' s.toks fun b o hb e => he' b o (by simpa using hb) e
  self := fun i s Q E st hQ => pyIter_map st.1.1 hQ
end
end Mine


namespace Mine
section
variable {prog : Program} {w : World} {A : Around} {E : Value → Shared → Prop} {s : Shared} {I : Addr} {fp wr : List Addr} {G : Array GenState → Array GenState → Prop} {n : Nat} {P : Nat → Value → Prop} {St : Nat → Shared → Prop}
theorem collect_map {Q : List Value → Shared → Prop} (W : WalksS prog w A.in1 I fp wr G n P St) (hT : ∀ i s, St i s → s.TypeIs (.ref I) "map") (hst : St 0 s) (hfp : ∀ b ∈ fp, b < s.heap.objs.size) (hI : I ∈ fp)
    (hQ : ∀ s' acc, Moved wr G s s' → ItemsOf P acc n → Q acc.toList s') (hn : n ≤ sizeLine) : wpAny (model prog w) A (collect (.ref I)) Q E s := by
  have hSf : s.heap.objs.size ∉ fp := fun hm => Nat.lt_irrefl _ (hfp _ hm)
  have hSI : s.heap.objs.size ≠ I := fun e => hSf (e ▸ hI)
  unfold collect
  refine wpAny_bind (wpAny_runValue (codeAny_builtin PySem.F.entry_proto_collect ?_))
  rw [Around.under_plainId PySem.F.plain_proto_collect _]
  show wpAny _ A.in1 (newList [] >>= fun l => again (.builtin "list.__iadd__" ⟨[l, .ref I], []⟩)) _ _ s
  refine wpAny_bind (wpAny_newObj_type ?_)
  refine wpAny_pure ⟨plainId_quiet PySem.F.plain_list_iadd _, codeAny_builtin PySem.F.entry_list_iadd ?_⟩
  rw [Around.under_plainId PySem.F.plain_list_iadd _]
  have hst₁ := W.frame 0 s (s.heap.push { cls := .type "list", data := .seq ([] : List Value).toArray }) s.toks hst (Nat.le_refl _) fun b _ o e => Heap.get?_push_of_some _ e
  have hS₁ : (s.heap.push { cls := .type "list", data := .seq ([] : List Value).toArray }).get? s.heap.objs.size = some { cls := .type "list", data := .seq ([] : List Value).toArray } := Heap.get?_push_size _ rfl
  have h1 : Builtin.List.listSameRef (.ref s.heap.objs.size) (.ref I) = false := by simp [Builtin.List.listSameRef, hSI]
  show wpAny _ A.in1 (Builtin.List.listExtendWith (.ref s.heap.objs.size) (.ref I) (.ref s.heap.objs.size)) _ _ _
  unfold Builtin.List.listExtendWith
  refine wpAny_bind (wpAny_typeOf (hT 0 _ hst₁) ?_)
  rw [if_neg (by rw [h1]; decide)]
  refine wpAny_bind (W.self 0 _ _ _ hst₁ ?_)
  refine wpAny_bind (wpAny_holding ?_)
  unfold Builtin.List.listLengthHint
  refine wpAny_bind (wpAny_specialOf (hT 0 _ hst₁) nolen_map ?_)
  show wpAny _ A.in1 (specialOf (Value.ref I) (Str.ofString "__length_hint__") >>= _) _ _ _
  refine wpAny_bind (wpAny_specialOf (hT 0 _ hst₁) nohint_map ?_)
  refine wpAny_pure ?_
  refine wpAny_ite_split (fun _ => ?_) (fun hne => absurd rfl hne)
  refine wpAny_bind (wpAny_rule ?_)
  refine wpAny_bind ?_
  show wpAny _ _ (updateSeq s.heap.objs.size (·.push .none) >>= fun _ => updateSeq s.heap.objs.size (·.pop)) _ _ _
  refine wpAny_bind (wpAny_updateSeq hS₁ rfl ?_)
  have hS₂ := Heap.get?_update_self (Obj.mapSeq (·.push Value.none)) hS₁ rfl
  refine wpAny_updateSeq (hz := by seq_fits) hS₂ rfl ?_
  have hS₃ := Heap.get?_update_self (Obj.mapSeq (·.pop)) hS₂ rfl
  have old : ∀ b o, b ≠ s.heap.objs.size → s.heap.get? b = some o → (((s.heap.push { cls := .type "list", data := .seq ([] : List Value).toArray }).update s.heap.objs.size (Obj.mapSeq (·.push Value.none))).update s.heap.objs.size (Obj.mapSeq (·.pop))).get? b = some o := fun b o hb e =>
    (Heap.get?_update_other _ _ (Ne.symm hb)).trans ((Heap.get?_update_other _ _ (Ne.symm hb)).trans (Heap.get?_push_of_some _ e))
  have hst₃ := W.frame 0 s (((s.heap.push { cls := .type "list", data := .seq ([] : List Value).toArray }).update s.heap.objs.size (Obj.mapSeq (·.push Value.none))).update s.heap.objs.size (Obj.mapSeq (·.pop))) s.toks hst (Nat.le_refl _) fun b hb o e => old b o (fun q => hSf (q ▸ hb)) e
  refine wpAny_pure ⟨plainId_quiet PySem.F.plain_extend_loop _, codeAny_extend_loopS W hn _ hSf _ n 0 _ _ _ rfl (Nat.zero_le _) hst₃ hS₃ (ItemsOf.nil P) fun s' acc' c' hm hS' hacc => ?_⟩
  show wpAny _ A (load s.heap.objs.size >>= _) _ _ s'
  refine wpAny_bind (wpAny_load hS' ?_)
  refine wpAny_pure (hQ s' acc' ⟨fun b o hb e => ?_, hm.gens, hm.drawn, hm.os, hm.toks⟩ hacc)
  have hbS : b ≠ s.heap.objs.size := Nat.ne_of_lt (Heap.lt_size e)
  refine hm.heap b o (fun h => ?_) (old b o hbS e)
  rcases List.mem_cons.mp h with h | h
  · exact hbS h
  · exact hb h
end
end Mine


namespace Mine
/-! sets of one or two elements: the exact object -/
noncomputable def byText (w : World) : Bool := w.params.followText "set-order"
noncomputable def tabS (led : Bool) (pl : Array Nat) : SetTable := { mask := 7, place := pl, dummies := #[], finger := 0, led := led, moves := 0, plain := true }
noncomputable def setOb (led : Bool) (es : Array (Int × Value)) (pl : Array Nat) (ep : Nat) : Obj := { cls := .type "set", dict := none, data := .set es ep (tabS led pl) }
noncomputable def ordS (w : World) (S : Addr) (ep : Nat) (es : Array (Int × Value)) : Array (Int × Value) := if byText w then pickOrder (w.params.setOrder S ep) es else es
theorem pick1 {α : Type} (f : Nat → Nat) (a : α) : pickOrder f #[a] = #[a] := by
  simp [pickOrder, pickOrder.go, Nat.mod_one]
theorem pick2 {α : Type} (f : Nat → Nat) (a b : α) : pickOrder f #[a, b] = #[a, b] ∨ pickOrder f #[a, b] = #[b, a] := by
  rcases Nat.mod_two_eq_zero_or_one (f 0) with h | h <;> simp [pickOrder, pickOrder.go, h, Nat.mod_one]
theorem below0 (pl : Array Nat) : SetTable.below pl 0 = 0 := by
  unfold SetTable.below
  have : ∀ (n hi : Nat), SetTable.below.go pl 0 n 0 hi = 0 := by
    intro n
    induction n with
    | zero => intro hi; rfl
    | succ n ih =>
      intro hi
      unfold SetTable.below.go
      split
      · rw [if_neg (by omega)]; exact ih _
      · rfl
  exact this _ _
theorem below1 (j k : Nat) : SetTable.below #[j] k = if j < k then 1 else 0 := by
  simp [SetTable.below, SetTable.below.go]
theorem below2 (i j k : Nat) (_h : i < j) : SetTable.below #[i, j] k = if j < k then 2 else if i < k then 1 else 0 := by
  by_cases h1 : j < k
  · simp [SetTable.below, SetTable.below.go, h1]
  · by_cases h2 : i < k
    · simp [SetTable.below, SetTable.below.go, h1, h2]
    · simp [SetTable.below, SetTable.below.go, h1, h2]
/-- the place reached by `i` steps -/
noncomputable def plAt (pl : Array Nat) : Nat → Nat
  | 0 => 0
  | i + 1 => pl.getD i 0 + 1
noncomputable def slotS (w : World) (pl : Array Nat) (i : Nat) : Nat := if byText w then 0 else plAt pl i
/-- what is asked of the places -/
noncomputable def GoodPl (pl : Array Nat) (n : Nat) : Prop := pl.size = n ∧ n ≤ 7 ∧ ∀ i, i ≤ n → SetTable.below pl (plAt pl i) = i
theorem good1 (j : Nat) : GoodPl #[j] 1 := ⟨rfl, by decide, fun i hi => by
  rcases i with _ | _ | i
  · exact below0 _
  · simp [plAt, below1]
  · omega⟩
theorem good2 (i j : Nat) (h : i < j) : GoodPl #[i, j] 2 := ⟨rfl, by decide, fun k hk => by
  rcases k with _ | _ | _ | k
  · exact below0 _
  · simp [plAt, below2 _ _ _ h]; omega
  · simp [plAt, below2 _ _ _ h]
  · omega⟩

theorem slot_setiter_next : Slot "set_iterator" "__next__" "set_iterator.__next__" :=
  .of (owner := "set_iterator") (n := "__next__") (by rw [typeLookup_type, builtinLookup_eq_fast]; kernel_rfl) (by decide +kernel) (by decide +kernel) (by decide +kernel)
    (by first | exact .inl (by decide +kernel) | exact .inr (by decide +kernel)) (by rw [isSubtype_type]; kernel_rfl)
theorem slot_setiter_iter : Slot "set_iterator" "__iter__" "set_iterator.__iter__" :=
  .of (owner := "set_iterator") (n := "__iter__") (by rw [typeLookup_type, builtinLookup_eq_fast]; kernel_rfl) (by decide +kernel) (by decide +kernel) (by decide +kernel)
    (by first | exact .inl (by decide +kernel) | exact .inr (by decide +kernel)) (by rw [isSubtype_type]; kernel_rfl)
theorem entry_setiter_next : entryFor table "set_iterator.__next__" = some Builtin.«set_iterator.__next__» := entryFor_of_tree (by kernel_rfl)
theorem entry_setiter_iter : entryFor table "set_iterator.__iter__" = some Builtin.«dict_keyiterator.__iter__» :=
  entryFor_alias (id' := "dict_keyiterator.__iter__") (by kernel_rfl) (by first | rfl | decide +kernel | (unfold String.splitOn; simp +decide [String.splitOnAux])) (by decide +kernel) (by kernel_rfl)
theorem entry_set_iter : entryFor table "set.__iter__" = some Builtin.«frozenset.__iter__» :=
  entryFor_alias (id' := "frozenset.__iter__") (by kernel_rfl) rfl (by decide +kernel) (by kernel_rfl)
theorem args_setiter_next (a : Value) : argsOk "set_iterator.__next__" ⟨[a], []⟩ := by unfold argsOk; kernel_rfl
theorem args_setiter_iter (a : Value) : argsOk "set_iterator.__iter__" ⟨[a], []⟩ := by unfold argsOk; kernel_rfl
noncomputable def itObj (slot i : Nat) (S : Addr) (n ep : Nat) : Obj := { cls := .type "set_iterator", data := .fields #[rawInt slot, rawInt i, .ref S, rawInt n, rawInt ep] }

section
variable {prog : Program} {w : World} {A : Around} {E : Value → Shared → Prop} {s : Shared}
theorem fits_tab {led : Bool} {pl : Array Nat} {es : Array (Int × Value)} (G : GoodPl pl es.size) : (tabS led pl).fits es.size = true := by
  obtain ⟨h1, h2, _⟩ := G
  simp [SetTable.fits, SetTable.fill, tabS, h1, h2]
theorem pyIter_set {S : Addr} {led : Bool} {es : Array (Int × Value)} {pl : Array Nat} {ep : Nat} {Q : Value → Shared → Prop} (G : GoodPl pl es.size) (hS : s.heap.get? S = some (setOb led es pl ep))
    (h : Q (.ref s.heap.objs.size) { s with heap := s.heap.push (itObj 0 0 S es.size ep) }) : wpAny (model prog w) A (pyIter (.ref S)) Q E s := by
  have hT : s.TypeIs (.ref S) "set" := ⟨_, hS, rfl⟩
  have hf := fits_tab (led := led) G
  refine wpAny_pyIter_slot hT F.slot_set_iter (wpAny_call_entry F.slot_set_iter hT entry_set_iter ?_ (F.args_set_iter_1 _))
  show wpAny _ _ (Builtin.Frozenset.sizeOf S >>= _) _ _ s
  unfold Builtin.Frozenset.sizeOf
  refine wpAny_bind (wpAny_bind (wpAny_setEntries_of hS rfl hf (wpAny_pure ?_)))
  unfold setDrawn
  refine wpAny_bind (wpAny_bind (wpAny_setState_of hS rfl hf ?_))
  unfold setsByText
  dsimp only
  refine wpAny_bind (wpAny_bind (wpAny_askSetting (wpAny_pure ?_)))
  refine wpAny_pure ?_
  show wpAny _ _ (if (_ && (!(tabS led pl).plain && decide (es.size > 1))) = true then _ else _) _ _ _
  refine else_way (by simp [tabS]) ?_
  refine wpAny_bind (wpAny_pure ?_)
  unfold setEpoch
  refine wpAny_bind (wpAny_bind (wpAny_setState_of hS rfl hf (wpAny_pure ?_)))
  show wpAny _ _ (newFields _ _ >>= _) _ _ s
  refine wpAny_bind (wpAny_newObj_type (wpAny_pure ⟨_, rfl, "set_iterator", _, ⟨_, Heap.get?_push_size _ rfl, rfl⟩, slot_setiter_next.lookup, ?_⟩))
  exact h

theorem setNext_is {S : Addr} {es : Array (Int × Value)} {pl : Array Nat} {ep i : Nat} {Q : Option (Value × Nat) → Shared → Prop} (G : GoodPl pl es.size) (hi : i ≤ es.size) (hS : s.heap.get? S = some (setOb (!byText w) es pl ep))
    (h : Q (((ordS w S ep es)[i]?).map fun e => (e.2, slotS w pl (i + 1))) s) : wpAny (model prog w) A (setNext S (slotS w pl i) i ep) Q E s := by
  have hf := fits_tab (led := !byText w) G
  unfold setNext
  refine wpAny_bind (wpAny_setState_of hS rfl hf ?_)
  unfold setsByText
  dsimp only
  refine wpAny_bind (wpAny_bind (wpAny_askSetting (wpAny_pure ?_)))
  show wpAny _ _ (if byText w = true then _ else _) _ _ _
  cases hb : byText w with
  | true =>
    refine then_way rfl ?_
    refine else_way (by simp) ?_
    unfold setWalk
    refine wpAny_bind (wpAny_bind (wpAny_setState_of hS rfl hf ?_))
    unfold setsByText
    dsimp only
    refine wpAny_bind (wpAny_bind (wpAny_askSetting (wpAny_pure ?_)))
    show wpAny _ _ (if byText w = true then _ else _) _ _ _
    refine then_way hb ?_
    refine wpAny_bind (wpAny_askSetting (wpAny_pure ?_))
    refine wpAny_pure ?_
    unfold ordS slotS at h
    rw [hb] at h
    show Q (((pickOrder (w.params.setOrder S ep) es)[i]?).map _) s
    simpa [slotS, hb] using h
  | false =>
    refine else_way rfl ?_
    show wpAny _ _ (if (!(tabS _ pl).plain && decide (es.size > 1)) = true then _ else _) _ _ _
    refine else_way (by simp [tabS]) ?_
    refine wpAny_bind (wpAny_pure ?_)
    obtain ⟨g1, g2, g3⟩ := G
    have e := g3 i hi
    have es' : slotS w pl i = plAt pl i := by simp [slotS, hb]
    rw [es']
    show wpAny _ _ (pure (match es[SetTable.below pl _]?, pl[SetTable.below pl _]? with | some (_, x), some j => some (x, j + 1) | _, _ => none)) _ _ _
    rw [e]
    refine wpAny_pure ?_
    unfold ordS at h
    rw [hb] at h
    simp only [Bool.false_eq_true, if_false] at h
    rcases Nat.lt_or_ge i es.size with hlt | hge
    · have h1 : es[i]? = some es[i] := Array.getElem?_eq_getElem hlt
      have h2 : pl[i]? = some pl[i] := Array.getElem?_eq_getElem (by omega)
      have h3 : pl.getD i 0 = pl[i]'(by omega) := by simp [Array.getD, show i < pl.size by omega]
      rw [h1] at h ⊢
      rw [h2]
      simpa [slotS, hb, plAt, h3] using h
    · have h1 : es[i]? = none := Array.getElem?_eq_none hge
      rw [h1] at h ⊢
      simpa using h
end
end Mine


namespace Mine
section
variable {prog : Program} {w : World} {A : Around} {E : Value → Shared → Prop} {s : Shared}
theorem setField_it {I : Addr} {vs : Array Value} {i : Nat} {x : Value} {Q : Unit → Shared → Prop} (ho : s.heap.get? I = some { cls := .type "set_iterator", data := .fields vs }) (hi : i < vs.size)
    (h : ∀ h', h'.get? I = some { cls := .type "set_iterator", data := .fields (vs.setIfInBounds i x) } → Heap.SameBut I s.heap h' → Q () { s with heap := h' }) : wpAny (model prog w) A (setField (.ref I) i x) Q E s :=
  wpAny_setField ho rfl hi (h _ (Heap.get?_update_self _ ho rfl) (Heap.SameBut.update ..))
theorem walks_set {I S : Addr} {es : Array (Int × Value)} {pl : Array Nat} {ep : Nat} (hh : A.handled = none) (hne : S ≠ I) (G : GoodPl pl es.size) (hz : (ordS w S ep es).size = es.size) :
    Walks prog w A I [I, S] [I] es.size (fun i v => ((ordS w S ep es)[i]?).map (·.2) = some v) (fun i h => h.get? I = some (itObj (slotS w pl i) i S es.size ep) ∧ h.get? S = some (setOb (!byText w) es pl ep) ∧ i ≤ es.size) where
  sub := fun b hb => by rw [List.mem_singleton.mp hb]; simp
  frame := fun i h h' st hk => ⟨hk _ (by simp) _ st.1, hk _ (by simp) _ st.2.1, st.2.2⟩
  item := fun i s Q E hi st hQ => by
    obtain ⟨h1, h2, h3⟩ := st
    have hT : s.TypeIs (.ref I) "set_iterator" := ⟨_, h1, rfl⟩
    have hf := fits_tab (led := !byText w) G
    have ev : (ordS w S ep es)[i]? = some ((ordS w S ep es)[i]'(by omega)) := Array.getElem?_eq_getElem (by omega)
    unfold pyNext
    refine wpAny_bind (wpAny_attempt (wpAny_callSpecial?_slot (name := Str.ofString "__next__") hT slot_setiter_next
      (wpAny_call_entry slot_setiter_next hT entry_setiter_next ?_ (args_setiter_next _))))
    unfold Builtin.«set_iterator.__next__»
    refine wpAny_bind (wpAny_pure ?_)
    refine wpAny_bind (wpAny_fieldsOf h1 rfl ?_)
    show wpAny _ _ (setEntries S >>= _) _ _ s
    refine wpAny_bind (wpAny_setEntries_of h2 rfl hf ?_)
    refine else_way (by simp) ?_
    show wpAny _ _ (setNext S _ _ _ >>= _) _ _ s
    refine wpAny_bind (setNext_is G h3 h2 ?_)
    rw [show ((ep : Nat) : Int).toNat = ep from Int.toNat_natCast ep, ev]
    show wpAny _ _ (setField (.ref I) 0 (rawInt (slotS w pl (i + 1) : Nat)) >>= _) _ _ s
    refine wpAny_bind (setField_it h1 (by simp) fun h' e' hs' => ?_)
    refine wpAny_bind (setField_it (s := { s with heap := h' }) e' (by simp) fun h'' e'' hs'' => ?_)
    refine wpAny_pure ⟨_, rfl, wpAny_pure ?_⟩
    have hst := hs'.trans hs''
    refine hQ _ h'' s.toks (by rw [ev]; rfl) ⟨?_, hst.extBut _ _ hne h2, hi⟩ fun b o hb e => hst.extBut b o (by simpa using hb) e
    rw [e'']
    simp [itObj, rawInt]
  done := fun s Q E st hQ => by
    obtain ⟨h1, h2, h3⟩ := st
    have hT : s.TypeIs (.ref I) "set_iterator" := ⟨_, h1, rfl⟩
    have hf := fits_tab (led := !byText w) G
    have ev : (ordS w S ep es)[es.size]? = none := Array.getElem?_eq_none (by omega)
    unfold pyNext
    refine wpAny_bind (wpAny_attempt (wpAny_callSpecial?_slot (name := Str.ofString "__next__") hT slot_setiter_next
      (wpAny_call_entry slot_setiter_next hT entry_setiter_next ?_ (args_setiter_next _))))
    unfold Builtin.«set_iterator.__next__»
    refine wpAny_bind (wpAny_pure ?_)
    refine wpAny_bind (wpAny_fieldsOf h1 rfl ?_)
    show wpAny _ _ (setEntries S >>= _) _ _ s
    refine wpAny_bind (wpAny_setEntries_of h2 rfl hf ?_)
    refine else_way (by simp) ?_
    show wpAny _ _ (setNext S _ _ _ >>= _) _ _ s
    refine wpAny_bind (setNext_is G h3 h2 ?_)
    rw [show ((ep : Nat) : Int).toNat = ep from Int.toNat_natCast ep, ev]
    show wpAny _ _ (setField (.ref I) 2 .none >>= _) _ _ s
    refine wpAny_bind (setField_it h1 (by simp) fun h' e' hs' => ?_)
    show wpAny _ _ (newExc (.type "StopIteration") [] >>= _) _ _ _
    refine wpAny_bind ?_
    simp only [newExc, newTuple]
    refine wpAny_bind (wpAny_newObj_type ?_ (by size_fits))
    refine wpAny_bind (m := firstArgMember _ _) (wpAny_of_eq (a := Value.none) (by first | rfl | (simp only [firstArgMember]; rfl)) ?_)
    refine wpAny_newObj_type ?_ (by size_fits)
    simp only [raiseNew]
    refine wpAny_bind (wpAny_handled ?_)
    rw [show A.in1.handled = none from hh]
    refine wpAny_bind (wpAny_pure (wpAny_throw ?_))
    refine wpAny_bind (wpAny_isInstance (T := "StopIteration") (b := true) ⟨_, Heap.get?_push_size _ rfl, rfl⟩ isSubtype_stop ?_)
    exact wpAny_pure (hQ _ s.toks fun b o hb e => ((hs'.extBut.push _).push _) b o (by simpa using hb) e)
  self := fun i s Q E st hQ => by
    have hT : s.TypeIs (.ref I) "set_iterator" := ⟨_, st.1, rfl⟩
    refine wpAny_pyIter_slot hT slot_setiter_iter (wpAny_call_entry slot_setiter_iter hT entry_setiter_iter ?_ (args_setiter_iter _))
    show wpAny _ _ (ret (.ref I)) _ _ s
    exact wpAny_pure ⟨_, rfl, "set_iterator", _, hT, slot_setiter_next.lookup, hQ⟩
end
end Mine


namespace Mine
noncomputable def pows : List Int := [1, 2, 4, 8, 16, 32, 64, 128, 256, 512, 1024, 2048]
theorem hash_pows : ∀ h ∈ pows, hashInt h = h := by decide +kernel
theorem lay1 (led : Bool) (x : Value) : ∀ h ∈ pows, layNew (tabS led #[]) #[] h x = (#[(h, x)], tabS led #[(h % 8).toNat], false, false) := by
  intro h hh
  simp only [pows, List.mem_cons, List.not_mem_nil, or_false] at hh
  rcases hh with rfl | rfl | rfl | rfl | rfl | rfl | rfl | rfl | rfl | rfl | rfl | rfl <;> cases led <;> rfl
/-- what a second element makes of the places -/
noncomputable def lay2Ok (led : Bool) (g h : Int) : Bool := match (tabS led #[(g % 8).toNat]).freeSlot h with
  | some (slot, wd) => !wd && (slot < (g % 8).toNat || (g % 8).toNat < slot) && slot < 8
  | none => false
theorem lay2_ok : ∀ led ∈ [true, false], ∀ g ∈ pows, ∀ h ∈ pows, g = h ∨ lay2Ok led g h = true := by decide +kernel
theorem lay2 (led : Bool) (y x : Value) (g : Int) (hg : g ∈ pows) (h : Int) (hh : h ∈ pows) (hne : g ≠ h) :
    ∃ i j, i < j ∧ (layNew (tabS led #[(g % 8).toNat]) #[(g, y)] h x = (#[(g, y), (h, x)], tabS led #[i, j], false, false) ∨ layNew (tabS led #[(g % 8).toNat]) #[(g, y)] h x = (#[(h, x), (g, y)], tabS led #[i, j], false, false)) := by
  have := (lay2_ok led (by cases led <;> simp) g hg h hh).resolve_left hne
  unfold lay2Ok at this
  unfold layNew
  cases e : (tabS led #[(g % 8).toNat]).freeSlot h with
  | none => rw [e] at this; cases this
  | some p =>
    obtain ⟨slot, wd⟩ := p
    rw [e] at this
    simp only [Bool.and_eq_true, Bool.or_eq_true, Bool.not_eq_true', decide_eq_true_eq] at this
    obtain ⟨⟨rfl, h1⟩, h2⟩ := this
    generalize (g % 8).toNat = q at *
    have hd : SetTable.has #[] slot = false := by simp [SetTable.has]
    rcases h1 with h1 | h1
    · refine ⟨slot, q, h1, .inr ?_⟩
      have hb : SetTable.below #[q] slot = 0 := by rw [below1, if_neg (by omega)]
      simp [SetTable.put, tabS, hb, SetTable.insertAt, hd, SetTable.orStandIn, SetTable.fits, SetTable.fill]
    · refine ⟨q, slot, h1, .inl ?_⟩
      have hb : SetTable.below #[q] slot = 1 := by rw [below1, if_pos h1]
      simp [SetTable.put, tabS, hb, SetTable.insertAt, hd, SetTable.orStandIn, SetTable.fits, SetTable.fill]

section
variable {prog : Program} {w : World} {A : Around} {E : Value → Shared → Prop} {s : Shared}
theorem add_new {a : Addr} {led : Bool} {es es1 : Array (Int × Value)} {pl pl1 : Array Nat} {ep : Nat} {x : Value} {h : Int} {Q : Bool → Shared → Prop} (hf : (tabS led pl).fits es.size = true) (hS : s.heap.get? a = some (setOb led es pl ep)) (hby : byScan x es = true)
    (hscan : ∀ Q' : ScanMet → Shared → Prop, Q' .absent s → wpAny (model prog w) A (setScan a x h true es) Q' E s) (hl : layNew (tabS led pl) es h x = (es1, tabS led pl1, false, false)) (hv : hashByValue 8 x = pure true) (hn : pl1.size ≤ 4) (hz : es1.size ≤ sizeLine)
    (q : ∀ h', h'.get? a = some (setOb led es1 pl1 (ep + 1)) → Heap.SameBut a s.heap h' → Q true { s with heap := h' }) : wpAny (model prog w) A (setAddHashed a x h) Q E s := by
  unfold setAddHashed setAddHashedIn
  refine wpAny_holding (wpAny_bind (wpAny_setState_of hS rfl hf ?_))
  dsimp only
  rw [hby]
  simp only [↓reduceIte]
  unfold setAddByScan
  refine wpAny_bind ?_
  refine wpAny_bind (wpAny_rule ?_)
  refine wpAny_bind (hscan _ ?_)
  dsimp only
  rw [hl]
  dsimp only
  refine wpAny_bind (wpAny_pure ?_)
  refine then_way rfl ?_
  rw [hv]
  refine wpAny_bind (wpAny_pure ?_)
  refine wpAny_bind (wpAny_storeSet_of hS rfl ?_ hz)
  have tf : (tabS led pl1).tooFull = false := by
    simp [SetTable.tooFull, tabS, SetTable.fill]; omega
  refine else_way (by show (!false && (tabS led pl1).tooFull) = false; rw [tf]; rfl) ?_
  refine wpAny_pure (wpAny_pure (q _ ?_ (Heap.SameBut.update ..)))
  exact Heap.get?_update_self (Obj.putSet es1 (tabS led pl1)) hS rfl
theorem add_old {a : Addr} {led : Bool} {es : Array (Int × Value)} {pl : Array Nat} {ep i : Nat} {x : Value} {h : Int} {Q : Bool → Shared → Prop} (hf : (tabS led pl).fits es.size = true) (hS : s.heap.get? a = some (setOb led es pl ep)) (hby : byScan x es = true)
    (hscan : ∀ Q' : ScanMet → Shared → Prop, Q' (.found i) s → wpAny (model prog w) A (setScan a x h true es) Q' E s) (q : Q false s) : wpAny (model prog w) A (setAddHashed a x h) Q E s := by
  unfold setAddHashed setAddHashedIn
  refine wpAny_holding (wpAny_bind (wpAny_setState_of hS rfl hf ?_))
  dsimp only
  rw [hby]
  simp only [↓reduceIte]
  unfold setAddByScan
  refine wpAny_bind ?_
  refine wpAny_bind (wpAny_rule ?_)
  exact wpAny_bind (hscan _ (wpAny_pure (wpAny_pure q)))
end
end Mine


namespace Mine
section
variable {prog : Program} {w : World} {A : Around} {E : Value → Shared → Prop} {s : Shared}
theorem set_new_led (a : Value) {Q₁ : Value → Shared → Prop}
    (h : Q₁ (.ref s.heap.objs.size) { s with heap := s.heap.push (setOb (!byText w) #[] #[] 0) }) :
    codeAny (model prog w) A (.call (.builtin "set.__new__") ⟨[.type "set", a], []⟩) (wants Q₁ E) s := by
  refine codeAny_of_tree ?_
  show wpAny _ A.in1 (do checkBuiltinCall "set.__new__" ⟨[.type "set", a], []⟩; again (.builtin "set.__new__" ⟨[.type "set", a], []⟩)) _ _ s
  refine wpAny_bind (wpAny_of_eq (PySem.F.newCall_set_1 a) (wpAny_pure ⟨plainId_quiet PySem.F.plain_set_new _, codeAny_builtin PySem.F.entry_set_new ?_⟩))
  rw [Around.under_plainId PySem.F.plain_set_new _]
  unfold Builtin.«set.__new__» Builtin.Frozenset.newClass
  have hsub := sub_set_self
  obtain ⟨hp, g, d, tk, os⟩ := s
  dsimp only
  wp_walk
  refine wpAny_askSetting (wpAny_pure ?_)
  dsimp only
  simp only [newObj]
  refine wpAny_bind (wpAny_alloc (wpAny_pure ?_))
  exact wpAny_pure h
theorem newSet_led {Q : Value → Shared → Prop} (h : Q (.ref s.heap.objs.size) { s with heap := s.heap.push (setOb (!byText w) #[] #[] 0) }) : wpAny (model prog w) A (newSet (.type "set")) Q E s := by
  unfold newSet setsByText
  refine wpAny_bind (wpAny_bind (wpAny_askSetting (wpAny_pure ?_)))
  dsimp only
  simp only [newObj]
  exact wpAny_bind (wpAny_alloc (wpAny_pure h))

theorem scan_nil {a : Addr} {x : Value} {h : Int} {Q : ScanMet → Shared → Prop} (hx : (match x with | .int .. => true | .bool _ => true | _ => false) = true) (hq : Q .absent s) : wpAny (model prog w) A (setScan a x h true #[]) Q E s := by
  unfold setScan
  cases x <;> first | exact wpAny_pure hq | cases hx
theorem scan_ok0 (x : Value) (hx : x.scannable = true) : byScan x #[] = true := by simp [byScan, hx, scanBound]
theorem scan_ok1 (x : Int) (t : Tok) (y g : Int) (u : Tok) : byScan (.int x t) #[(g, .int y u)] = true := by simp [byScan, Value.scannable, scanBound]
theorem scan_int {a : Addr} {led : Bool} {pl : Array Nat} {ep : Nat} {g h : Int} {y x : Int} {t u : Tok} (hf : (tabS led pl).fits 1 = true) (hS : s.heap.get? a = some (setOb led #[(g, .int y t)] pl ep)) (hg : g = y) (hh : h = x) {Q : ScanMet → Shared → Prop}
    (hq : Q (if y = x then .found 0 else .absent) s) : wpAny (model prog w) A (setScan a (.int x u) h true #[(g, .int y t)]) Q E s := by
  subst hg hh
  show wpAny _ _ (setScanFrom a (.int h u) h true [(g, .int g t)] 0) _ _ s
  unfold setScanFrom
  by_cases e : g = h
  · subst e
    rw [if_pos rfl] at hq
    rw [if_pos (by simp)]
    refine wpAny_bind (wpAny_setEpoch_of hS rfl hf ?_)
    refine wpAny_bind (wpAny_eqBool_int ?_)
    simp only [beq_self_eq_true, Bool.and_self, ↓reduceIte]
    exact wpAny_pure hq
  · rw [if_neg e] at hq
    rw [if_neg (by simpa using e)]
    unfold setScanFrom
    exact wpAny_pure hq

noncomputable def TwoSet (x y : Int) (tx ty : Tok) (es : Array (Int × Value)) : Prop := (x = y ∧ es = #[(x, .int x tx)]) ∨ (x ≠ y ∧ (es = #[(x, .int x tx), (y, .int y ty)] ∨ es = #[(y, .int y ty), (x, .int x tx)]))
theorem update2 {I l S : Addr} {x y : Int} {tx ty : Tok} {R : Result → Shared → Prop} (hh : A.handled = none) (hx : x ∈ pows) (hy : y ∈ pows) (hlI : l ≠ I) (hSI : S ≠ I) (hSl : S ≠ l) (hS : s.heap.get? S = some (setOb (!byText w) #[] #[] 0))
    (hI : s.heap.IsListIter I l 0) (hL : s.heap.IsList l #[.int x tx, .int y ty])
    (q : ∀ h' tk es pl ep, GoodPl pl es.size → TwoSet x y tx ty es → h'.get? S = some (setOb (!byText w) es pl ep) → (∀ b o, b ≠ S → b ≠ I → s.heap.get? b = some o → h'.get? b = some o) → R (.ok (.ret .none)) { s with heap := h', toks := tk }) :
    codeAny (model prog w) A (.builtin "set.update.loop" ⟨[.ref S, .ref I], []⟩) R s := by
  have W := Walks.list (prog := prog) (w := w) (A := A.in1) hh I l hlI #[.int x tx, .int y ty]
  have Sfp : S ∉ [I, l] := by simp [hSI, hSl]
  have SnI : S ∉ [I] := by simp [hSI]
  have hpx := hash_pows x hx
  have hpy := hash_pows y hy
  refine codeAny_builtin F.entry_set_update_loop ?_
  rw [Around.under_plainId F.plain_set_update_loop _]
  show wpAny _ A.in1 (pyNext (.ref I) >>= _) _ _ s
  refine wpAny_bind (W.item 0 s _ _ (by simp) ⟨hI, hL⟩ fun v h₁ t₁ hv st₁ hk₁ => ?_)
  have ev : v = .int x tx := by simpa using hv.symm
  subst ev
  have hS₁ := hk₁ S _ SnI hS
  show wpAny _ A.in1 (holding [Value.int x tx] (setAdd S (.int x tx)) >>= _) _ _ _
  refine wpAny_bind (wpAny_holding ?_)
  unfold setAdd
  refine wpAny_holding ?_
  refine wpAny_bind (wpAny_pyHash_int ?_)
  rw [hpx]
  refine add_new (s := { s with heap := h₁, toks := t₁ + 1 }) (by rfl) hS₁ (scan_ok0 _ rfl) (fun Q' hq => scan_nil rfl hq) (lay1 _ _ x hx) (by rfl) (by simp) (by simp [sizeLine_eq]) fun h₂ hS₂ hsb₂ => ?_
  have st₂ := W.frame _ _ h₂ st₁ fun b hb o e => hsb₂.extBut b o (fun q => Sfp (q ▸ hb)) e
  refine wpAny_pure ⟨plainId_quiet F.plain_set_update_loop _, ?_⟩
  refine codeAny_builtin F.entry_set_update_loop ?_
  rw [Around.under_plainId F.plain_set_update_loop _]
  show wpAny _ A.in1 (pyNext (.ref I) >>= _) _ _ _
  refine wpAny_bind (W.item 1 _ _ _ (by simp) st₂ fun v h₃ t₃ hv st₃ hk₃ => ?_)
  have ev : v = .int y ty := by simpa using hv.symm
  subst ev
  have hS₃ := hk₃ S _ SnI hS₂
  have fin : ∀ (h₄ : Heap) (t₄ : Nat) (es : Array (Int × Value)) (pl : Array Nat) (ep : Nat), GoodPl pl es.size → TwoSet x y tx ty es → h₄.get? S = some (setOb (!byText w) es pl ep) → Heap.SameBut S h₃ h₄ →
      codeAny (model prog w) A (.builtin "set.update.loop" ⟨[.ref S, .ref I], []⟩) R { s with heap := h₄, toks := t₄ } := by
    intro h₄ t₄ es pl ep G T hS₄ hsb₄
    refine codeAny_builtin F.entry_set_update_loop ?_
    rw [Around.under_plainId F.plain_set_update_loop _]
    show wpAny _ A.in1 (pyNext (.ref I) >>= _) _ _ _
    have st₄ := W.frame _ _ h₄ st₃ fun b hb o e => hsb₄.extBut b o (fun q => Sfp (q ▸ hb)) e
    refine wpAny_bind (W.done { s with heap := h₄, toks := t₄ } _ _ st₄ fun h₅ t₅ hk₅ => ?_)
    show wpAny _ A.in1 (ret Value.none) _ _ _
    refine wpAny_pure (q h₅ t₅ es pl ep G T (hk₅ S _ SnI hS₄) fun b o n1 n2 e => ?_)
    have nI : b ∉ [I] := by simpa using n2
    exact hk₅ b o nI (hsb₄.extBut b o n1 (hk₃ b o nI (hsb₂.extBut b o n1 (hk₁ b o nI e))))
  show wpAny _ A.in1 (holding [Value.int y ty] (setAdd S (.int y ty)) >>= _) _ _ _
  refine wpAny_bind (wpAny_holding ?_)
  unfold setAdd
  refine wpAny_holding ?_
  refine wpAny_bind (wpAny_pyHash_int ?_)
  rw [hpy]
  by_cases e : x = y
  · refine add_old (s := { s with heap := h₃, toks := t₃ + 1 }) (i := 0) (by rfl) hS₃ (scan_ok1 ..) (fun Q' hq => scan_int (by rfl) hS₃ rfl rfl (by rw [if_pos e]; exact hq)) ?_
    refine wpAny_pure ⟨plainId_quiet F.plain_set_update_loop _, ?_⟩
    exact fin h₃ _ _ _ _ (good1 _) (.inl ⟨e, rfl⟩) hS₃ (Heap.SameBut.refl S h₃)
  · obtain ⟨i, j, hij, hl⟩ := lay2 (!byText w) (.int x tx) (.int y ty) x hx y hy e
    obtain ⟨es1, hl1, hsz, hT⟩ : ∃ es1, layNew (tabS (!byText w) #[(x % 8).toNat]) #[(x, .int x tx)] y (.int y ty) = (es1, tabS (!byText w) #[i, j], false, false) ∧ es1.size = 2 ∧ TwoSet x y tx ty es1 := by
      rcases hl with hl | hl
      · exact ⟨_, hl, rfl, .inr ⟨e, .inl rfl⟩⟩
      · exact ⟨_, hl, rfl, .inr ⟨e, .inr rfl⟩⟩
    refine add_new (s := { s with heap := h₃, toks := t₃ + 1 }) (by rfl) hS₃ (scan_ok1 ..) (fun Q' hq => scan_int (by rfl) hS₃ rfl rfl (by rw [if_neg e]; exact hq)) hl1 (by rfl) (by simp) (by rw [hsz]; simp [sizeLine_eq]) fun h₄ hS₄ hsb₄ => ?_
    refine wpAny_pure ⟨plainId_quiet F.plain_set_update_loop _, ?_⟩
    exact fin h₄ _ es1 _ _ (by rw [hsz]; exact good2 i j hij) hT hS₄ hsb₄
end
end Mine


namespace Mine
section
variable {prog : Program} {w : World} {A : Around} {E : Value → Shared → Prop} {s : Shared}
theorem call_set2 {l : Addr} {x y : Int} {tx ty : Tok} {n : Nat} {Q : Value → Shared → Prop} (hh : A.handled = none) (hx : x ∈ pows) (hy : y ∈ pows) (hol : s.heap.get? l = some { cls := .type "list", data := .seq #[.int x tx, .int y ty] n })
    (h : ∀ (S : Addr) (h' : Heap) (tk : Nat) (es : Array (Int × Value)) (pl : Array Nat) (ep : Nat), GoodPl pl es.size → TwoSet x y tx ty es → h'.get? S = some (setOb (!byText w) es pl ep) → (∀ b o, s.heap.get? b = some o → h'.get? b = some o) → Q (.ref S) { s with heap := h', toks := tk }) :
    wpAny (model prog w) A (call (.type "set") [.ref l]) Q E s := by
  obtain ⟨c, tl, hmro⟩ := PySem.F.called_set.mro
  have hmade := PySem.F.called_set.made
  have hsub := PySem.F.called_set.sub
  refine wpAny_call (codeAny_of_tree ?_)
  show wpAny _ _ (callAny (.type "set") _) _ _ _
  refine wpAny_pure ⟨Code.quiet_builtin _ (by decide +kernel), codeAny_builtin PySem.F.entry_type_call ?_⟩
  rw [Around.under_plain (weight_type_call_type "set" [.ref l] []) rfl]
  have h1 := PySem.F.called_set.notType
  have h2 := PySem.F.called_set.canCreate
  have hct := PySem.F.typeCall_set_1 (.ref l)
  repeat (any_goals (first | assumption | wp_step))
  refine codeAny_mono (set_new_led (.ref l) (E := E) (Q₁ := fun obj s₁ => obj = .ref s.heap.objs.size ∧ s₁ = { s with heap := s.heap.push (setOb (!byText w) #[] #[] 0) }) ⟨rfl, rfl⟩) fun r s₁ hr => ?_
  cases r with
  | error e => exact hr
  | ok fl =>
    cases fl with
    | ret obj =>
      obtain ⟨rfl, rfl⟩ := hr
      have hS : (s.heap.push (setOb (!byText w) #[] #[] 0)).get? s.heap.objs.size = some (setOb (!byText w) #[] #[] 0) := Heap.get?_push_size _ rfl
      have hT : Shared.TypeIs { s with heap := s.heap.push (setOb (!byText w) #[] #[] 0) } (.ref s.heap.objs.size) "set" := ⟨_, hS, rfl⟩
      have hli := PySem.F.called_set.init.lookup
      have hbi := PySem.F.called_set.init.bind (.ref s.heap.objs.size)
      repeat (any_goals (first | assumption | wp_step))
      refine codeAny_mono (codeAny_call_builtin (R := wants (fun r s₂ => r = .none ∧ ∃ h' tk es pl ep, s₂ = { s with heap := h', toks := tk } ∧ GoodPl pl es.size ∧ TwoSet x y tx ty es ∧ h'.get? s.heap.objs.size = some (setOb (!byText w) es pl ep) ∧
          (∀ b o, s.heap.get? b = some o → h'.get? b = some o)) E) PySem.F.called_set.init.plain PySem.F.entry_set_init (check_set_init_1 hT ?_)) fun r₂ s₂ hr₂ => ?_
      · have hol' : (s.heap.push (setOb (!byText w) #[] #[] 0)).get? l = some { cls := .type "list", data := .seq #[.int x tx, .int y ty] n } := Heap.get?_push_of_some _ hol
        have hsls := PySem.F.sub_list_set
        have hslf := PySem.F.sub_list_frozenset
        have hne : (Value.type "list" == Value.type "dict") = false := by decide
        have hl1 : (s.heap.push (setOb (!byText w) #[] #[] 0)).IsList l #[.int x tx, .int y ty] := ⟨_, hol', rfl, n, rfl⟩
        unfold Builtin.«set.__init__» noKeywords Builtin.Frozenset.updateFrom
        generalize hPI : pyIter = PI
        wp_walk
        subst hPI
        refine wpAny_pyIter_list hl1 ?_
        refine wpAny_bind (wpAny_runValue ?_)
        have hlS : l < s.heap.objs.size := Heap.lt_size hol
        have hh3 : A.in1.in1.in1.handled = none := by simp [hh]
        have hsz := Heap.size_push s.heap (setOb (!byText w) #[] #[] 0)
        refine update2 (I := (s.heap.push (setOb (!byText w) #[] #[] 0)).objs.size) (l := l) (S := s.heap.objs.size) hh3 hx hy ?_ ?_ ?_ (Heap.get?_push_of_some _ hS) ⟨_, Heap.get?_push_size _ rfl, rfl, rfl⟩ (hl1.push _) fun h' tk es pl ep G T hS' hk => ?_
        · rw [hsz]; exact Nat.ne_of_lt (Nat.lt_succ_of_lt hlS)
        · rw [hsz]; exact Nat.ne_of_lt (Nat.lt_succ_self _)
        · exact Nat.ne_of_gt hlS
        show wpAny _ _ _ _ _ _
        refine wpAny_pure ?_
        show wpAny _ _ (ret Value.none) _ _ _
        refine wpAny_pure ⟨rfl, h', tk, es, pl, ep, rfl, G, T, hS', fun b o e => ?_⟩
        have hb := Heap.lt_size e
        refine hk b o (Nat.ne_of_lt hb) ?_ (Heap.get?_push_of_some _ (Heap.get?_push_of_some _ e))
        rw [hsz]; exact Nat.ne_of_lt (Nat.lt_succ_of_lt hb)
      · cases r₂ with
        | error e => exact hr₂
        | ok fl₂ =>
          cases fl₂ with
          | ret r =>
            obtain ⟨rfl, h', tk, es, pl, ep, rfl, G, T, hS', hk'⟩ := hr₂
            repeat (any_goals (first | assumption | wp_step))
            exact h _ _ _ es pl ep G T hS' hk'
          | _ => exact hr₂.elim
    | _ => exact hr.elim

theorem call_sum_set {S : Addr} {x y : Int} {tx ty : Tok} {es : Array (Int × Value)} {pl : Array Nat} {ep : Nat} {Q : Value → Shared → Prop} (hh : A.handled = none) (hx : x ∈ pows) (hy : y ∈ pows) (G : GoodPl pl es.size) (T : TwoSet x y tx ty es) (hS : s.heap.get? S = some (setOb (!byText w) es pl ep))
    (q : ∀ s' t, Kp s s' → Q (.int (if x = y then x else x + y) t) s') : wpAny (model prog w) A (call (.builtin "sum") [.ref S]) Q E s := by
  have small : ∀ z ∈ pows, 0 < z ∧ z ≤ 2048 := by decide
  obtain ⟨x1, x2⟩ := small x hx
  obtain ⟨y1, y2⟩ := small y hy
  refine call_sum_walk (pyIter_set G hS ?_)
  have hlt := Heap.lt_size hS
  have hfp : ∀ b ∈ [s.heap.objs.size, S], b < (s.heap.push (itObj 0 0 S es.size ep)).objs.size := fun b hb => by
    rw [Heap.size_push]
    simp only [List.mem_cons, List.not_mem_nil, or_false] at hb
    rcases hb with rfl | rfl
    · exact Nat.lt_succ_self _
    · exact Nat.lt_succ_of_lt hlt
  have kp : ∀ (h' : Heap) (tk : Nat), (∀ b o, b ∉ [s.heap.objs.size] → (s.heap.push (itObj 0 0 S es.size ep)).get? b = some o → h'.get? b = some o) → Kp s { s with heap := h', toks := tk } := fun h' tk hk =>
    Kp.mk' fun b o e => hk b o (by simpa using Nat.ne_of_lt (Heap.lt_size e)) (Heap.get?_push_of_some _ e)
  have slot0 : slotS w pl 0 = 0 := by unfold slotS plAt; split <;> rfl
  have L : ∀ z : Int, 0 ≤ z → z ≤ 5000 → InLong z := fun z a b => ⟨by omega, by omega⟩
  have st0 : (s.heap.push (itObj 0 0 S es.size ep)).get? s.heap.objs.size = some (itObj (slotS w pl 0) 0 S es.size ep) := by rw [slot0]; exact Heap.get?_push_size _ rfl
  have stS : (s.heap.push (itObj 0 0 S es.size ep)).get? S = some (setOb (!byText w) es pl ep) := Heap.get?_push_of_some _ hS
  have two : ∀ (a b : Int) (ta tb : Tok), 0 < a → a ≤ 2048 → 0 < b → b ≤ 2048 → ordS w S ep es = #[(a, .int a ta), (b, .int b tb)] → es.size = 2 → (∀ s' t, Kp s s' → Q (.int (a + b) t) s') →
      ∃ I fp wr n P St val, Value.ref s.heap.objs.size = .ref I ∧ Walks prog w A.in1 I fp wr n P St ∧ St 0 (s.heap.push (itObj 0 0 S es.size ep)) ∧ (∀ b ∈ fp, b < (s.heap.push (itObj 0 0 S es.size ep)).objs.size) ∧
      (∀ i v, P i v → ∃ t, v = .int (val i) t) ∧ (∀ j, j < n → InLong (val j) ∧ InLong (preSum val (j + 1))) ∧
      ∀ h' tk t', (∀ b o, b ∉ wr → (s.heap.push (itObj 0 0 S es.size ep)).get? b = some o → h'.get? b = some o) → Q (.int (preSum val n) t') { s with heap := h', toks := tk } := by
    intro a b ta tb a1 a2 b1 b2 eo e2 q'
    refine ⟨_, _, _, _, _, _, fun i => if i = 0 then a else b, rfl, walks_set (A := A.in1) hh (I := s.heap.objs.size) (Nat.ne_of_lt hlt) G (by rw [eo, e2]; rfl), ⟨st0, stS, Nat.zero_le _⟩, hfp, fun i v hv => ?_, fun j hj => ?_, fun h' tk t' hk => ?_⟩
    · rw [eo] at hv
      rcases i with _ | _ | i
      · simp at hv; exact ⟨ta, hv.symm⟩
      · simp at hv; exact ⟨tb, hv.symm⟩
      · simp at hv
    · rw [e2] at hj
      rcases j with _ | _ | j
      · simp only [preSum]; exact ⟨L _ (by simp; omega) (by simp; omega), L _ (by simp; omega) (by simp; omega)⟩
      · simp only [preSum]; exact ⟨L _ (by simp; omega) (by simp; omega), L _ (by simp; omega) (by simp; omega)⟩
      · omega
    · have e : preSum (fun i => if i = 0 then a else b) es.size = a + b := by rw [e2]; simp [preSum]
      rw [e]
      exact q' _ _ (kp h' tk hk)
  rcases T with ⟨rfl, rfl⟩ | ⟨hne, T⟩
  · rw [if_pos rfl] at q
    have eo : ordS w S ep #[(x, .int x tx)] = #[(x, .int x tx)] := by unfold ordS; split; exact pick1 _ _; rfl
    refine ⟨_, _, _, _, _, _, fun _ => x, rfl, walks_set (A := A.in1) hh (I := s.heap.objs.size) (Nat.ne_of_lt hlt) G (by rw [eo]), ⟨st0, stS, Nat.zero_le _⟩, hfp, fun i v hv => ?_, fun j hj => ?_, fun h' tk t' hk => ?_⟩
    · rw [eo] at hv
      rcases i with _ | i
      · simp at hv; exact ⟨tx, hv.symm⟩
      · simp at hv
    · have : j = 0 := by simp at hj; exact hj
      subst this
      simp only [preSum]; exact ⟨L _ (by omega) (by omega), L _ (by omega) (by omega)⟩
    · have e : preSum (fun _ => x) 1 = x := by simp [preSum]
      show Q (.int (preSum (fun _ => x) 1) t') _
      rw [e]
      exact q _ _ (kp h' tk hk)
  · rw [if_neg hne] at q
    have ord : ∀ a b : Int × Value, ordS w S ep #[a, b] = #[a, b] ∨ ordS w S ep #[a, b] = #[b, a] := fun a b => by
      unfold ordS
      split
      · exact pick2 _ _ _
      · exact .inl rfl
    have q2 : ∀ s' t, Kp s s' → Q (.int (y + x) t) s' := by rw [Int.add_comm]; exact q
    rcases T with rfl | rfl
    · rcases ord (x, .int x tx) (y, .int y ty) with eo | eo
      · exact two x y tx ty x1 x2 y1 y2 eo rfl q
      · exact two y x ty tx y1 y2 x1 x2 eo rfl q2
    · rcases ord (y, .int y ty) (x, .int x tx) with eo | eo
      · exact two y x ty tx y1 y2 x1 x2 eo rfl q2
      · exact two x y tx ty x1 x2 y1 y2 eo rfl q
end

section
variable {prog : Program} {w : World} {hb : Heap} {k : Nat} {Γ : Lay} {sc : Scope} {mg mb : Str → Option Value}
noncomputable def sumSetD (f : Rho → Option PyData) (ρ : Rho) : Option PyData := match f ρ with
  | some (.list [.int x, .int y]) => if x ∈ pows ∧ y ∈ pows then some (.int (if x = y then x else x + y)) else none
  | _ => none
theorem R_sumset {f : Rho → Option PyData} {e : Expr} {p p2 cp pos : Pos} (G : GlobOk mg mb hb) (hk : isGlob sc "sum" = true) (hn : mg "sum" = none) (hv : mb "sum" = some (.builtin "sum")) (hk2 : isGlob sc "set" = true) (hn2 : mg "set" = none) (hv2 : mb "set" = some (.type "set"))
    (h : SimE prog w hb k Γ sc f e) (he : ∀ env, starEach [e] env = (false, eval e env) :: starEach [] env)
    (he2 : ∀ env, starEach [Expr.Call (.Name "set" p2) [e] [] cp] env = [(false, eval (Expr.Call (.Name "set" p2) [e] [] cp) env)]) :
    SimE prog w hb k Γ sc (sumSetD f) (.Call (.Name "sum" p) [.Call (.Name "set" p2) [e] [] cp] [] pos) := by
  intro env O A Y X ρ s d Q E R S hf q
  unfold sumSetD at hf
  split at hf
  case h_2 => cases hf
  rename_i x y ef
  split at hf
  case isFalse => cases hf
  rename_i hp
  cases hf
  refine Call_ (load_blt G O S.base hk hn hv ?_) rfl
  rw [he2 env]
  refine callWith_builtin1 (Call_ (load_blt G O S.base hk2 hn2 hv2 ?_) rfl)
  refine PyProof.Rows.callWith_type1 (wpAny_items_cons (h env O A Y X ρ s _ _ E R S ef fun v s₁ K₁ r₁ => wpAny_items_nil ?_) (he env)) (he env) rfl
  obtain ⟨l, o, vs, n, rfl, xa, e1, co, dt, r⟩ := r₁.list_inv
  obtain ⟨vl⟩ := vs
  cases r with
  | cons ra r =>
    cases r with
    | cons rb r =>
      cases r
      cases ra with
      | int _ tx =>
        cases rb with
        | int _ ty =>
          refine call_set2 R.1 hp.1 hp.2 (by rw [e1, co]) fun S' h' tk es pl ep G' T hS hk' => ?_
          refine call_sum_set R.1 hp.1 hp.2 G' T hS fun s' t K => ?_
          exact q _ s' ((K₁.trans (Kp.mk' hk')).trans K) (.int _ _)
end
end Mine


namespace Mine
/-! `{.. for ..}` of one truth value -/
theorem compTurn_set (elt target iter : Expr) (ifs : List Expr) (scope : Scope) (pos : Pos) (it acc : Value) (env : Env) :
    compTurn (.SetComp elt [⟨target, iter, ifs, 0⟩] scope pos) 0 it acc env = (do
      standAt iter.pos
      match ← pyNext it with
      | none => pure (.done .next)
      | some v =>
        letOwnedTupleGo target it v
        assign target env v
        let mut ok := true
        for c in ifs do
          if ok then ok ← isTrue c env (eval c env)
        if ok then
          (do let v ← eval elt env; standAt elt.pos; let _ ← call (.builtin "set.add") [acc, v])
        again (.compLoop (.SetComp elt [⟨target, iter, ifs, 0⟩] scope pos) 0 it acc env)) := by rfl
section
variable {prog : Program} {w : World} {A : Around} {E : Value → Shared → Prop} {R : Result → Shared → Prop} {s : Shared}
theorem compStart_set {elt target iter : Expr} {ifs : List Expr} {rest : List Comprehension} {scope : Scope} {pos : Pos} {it acc : Value} {env : Env}
    (h0 : codeAny (model prog w) A (.compLoop (.SetComp elt (⟨target, iter, ifs, 0⟩ :: rest) scope pos) 0 it acc env) R s)
    (h : wpAny (model prog w) A (pyIter it) (fun it' s' => codeAny (model prog w) A (.compLoop (.SetComp elt (⟨target, iter, ifs, 0⟩ :: rest) scope pos) 0 it' acc env) R s')
      (notedBy (model prog w) A env fun x s' => R (.error x) s') s) :
    codeAny (model prog w) A (.compStart (.SetComp elt (⟨target, iter, ifs, 0⟩ :: rest) scope pos) 0 it acc env) R s := by
  refine codeAny_of_tree ?_
  show wpAny _ _ ((compStart (.SetComp elt (⟨target, iter, ifs, 0⟩ :: rest) scope pos) 0 it acc env).onRaise (fun x => do noteFrame x env; standAt theWindowsPlace)) _ _ s
  refine wpAny_notedAt ?_
  unfold compStart
  show wpAny _ _ (ask >>= _) _ _ s
  refine wpAny_bind (wpAny_askSetting (wpAny_ite ?_))
  split
  · first
      | exact wpAny_bind (wpAny_pure (wpAny_pure (And.intro rfl h0)))
      | exact wpAny_pure (And.intro rfl h0)
  · first
      | exact wpAny_bind (wpAny_rule (wpAny_bind (wpAny_standAt (wpAny_bind (wpAny_mono h (fun it' s' h' => wpAny_pure (And.intro rfl h')) fun _ _ x => x)))))
      | (refine wpAny_bind (wpAny_rule ?_); show wpAny _ _ (standAt iter.pos >>= _) _ _ s; exact wpAny_bind (wpAny_standAt (wpAny_bind (wpAny_mono h (fun it' s' h' => wpAny_pure (And.intro rfl h')) fun _ _ x => x))))
theorem compLoopS_any {elt target iter : Expr} {ifs : List Expr} {scope : Scope} {pos : Pos} {it acc : Value} {env : Env} (I : Nat → Shared → Prop)
    (turn : ∀ n s, I n s → wpAny (model prog w) A (pyNext it) (fun r s₁ => match r with
      | none => R (.ok .next) s₁
      | some v => wpAny (model prog w) A (letOwnedTupleGo target it v) (fun _ s₁' => wpAny (model prog w) A (assign target env v) (fun _ s₂ =>
          wpAny (model prog w) A (forIn ifs true fun c r => if r = true then do let ok ← PySem.isTrue c env (eval c env); pure (ForInStep.yield ok) else pure (ForInStep.yield r)) (fun ok s₃ =>
            if ok = true then wpAny (model prog w) A (eval elt env) (fun x s₄ =>
              wpAny (model prog w) A (call (.builtin "set.add") [acc, x]) (fun _ s₅ => ∃ m, m < n ∧ I m s₅) (notedBy (model prog w) A env fun e s' => R (.error e) s') s₄) (notedBy (model prog w) A env fun e s' => R (.error e) s') s₃
            else ∃ m, m < n ∧ I m s₃) (notedBy (model prog w) A env fun e s' => R (.error e) s') s₂) (notedBy (model prog w) A env fun e s' => R (.error e) s') s₁') (notedBy (model prog w) A env fun e s' => R (.error e) s') s₁) (notedBy (model prog w) A env fun e s' => R (.error e) s') s)
    (n : Nat) (h : I n s) : codeAny (model prog w) A (.compLoop (.SetComp elt [⟨target, iter, ifs, 0⟩] scope pos) 0 it acc env) R s := by
  refine codeAny_loop rfl I (fun n s hI => ?_) n h
  show wpAny _ A ((compTurn (.SetComp elt [⟨target, iter, ifs, 0⟩] scope pos) 0 it acc env).onRaise (fun x => do noteFrame x env; theTreesLotGoes x)) _ _ s
  refine wpAny_noted ?_
  rw [compTurn_set]
  refine wpAny_bind (wpAny_standAt (wpAny_bind (wpAny_mono (turn n s hI) (fun r s₁ h₁ => ?_) fun _ _ h' => h')))
  cases r with
  | none => exact wpAny_pure h₁
  | some v =>
    refine wpAny_bind (wpAny_mono h₁ (fun _ s₁' h₁' => ?_) fun _ _ h' => h')
    refine wpAny_bind (wpAny_mono h₁' (fun _ s₂ h₂ => wpAny_bind (wpAny_mono h₂ (fun ok s₃ h₃ => ?_) fun _ _ h' => h')) fun _ _ h' => h')
    cases ok with
    | false => exact wpAny_pure ⟨rfl, h₃⟩
    | true =>
      exact wpAny_bind (wpAny_bind (wpAny_mono h₃ (fun x s₄ h₄ => wpAny_bind (wpAny_standAt (wpAny_bind (wpAny_mono h₄ (fun _ s₅ h₅ => wpAny_pure (wpAny_pure ⟨rfl, h₅⟩)) fun _ _ h' => h')))) fun _ _ h' => h'))

/-! truth values as elements -/
noncomputable def hB (b : Bool) : Int := if b then 1 else 0
theorem pyHash_bool {b : Bool} {Q : Int → Shared → Prop} (h : Q (hB b) { s with toks := s.toks + 1 }) : wpAny (model prog w) A (pyHash (.bool b)) Q E s := by
  have hT : s.TypeIs (.bool b) "bool" := PySem.typeIs_bool _ _
  unfold pyHash
  have hv : [Value.bool b].any Value.onHeap = false := rfl
  refine wpAny_bind ?_
  rw [cRoomFor, if_neg (by rw [hv]; exact Bool.false_ne_true)]; refine wpAny_pure ?_
  refine wpAny_bind (wpAny_specialOf hT PySem.F.slot_bool_hash.lookup ?_)
  show wpAny _ _ (if (some (Value.builtin "int.__hash__") == some Value.none) = true then _ else _) Q E s
  rw [if_neg (by rw [beq_builtin_none]; exact Bool.false_ne_true)]
  refine wpAny_bind (wpAny_specialOf hT PySem.F.slot_bool_hash.lookup ?_)
  show wpAny _ _ (callSpecialIfBoundUnlessNone? (.bool b) "__hash__" _ >>= _) Q E s
  refine wpAny_bind (wpAny_callSpecialIfBoundUnlessNone?_slot hT PySem.F.slot_bool_hash
    (wpAny_call_entry PySem.F.slot_bool_hash hT entry_int_hash ?_ (args_int_hash _)))
  cases b
  · show wpAny _ _ (do ret (← mkInt 0)) _ _ s
    refine wpAny_ret_mkInt ?_
    show wpAny _ _ (if _ then _ else _) Q E _
    refine then_way (by rfl) (wpAny_pure h)
  · show wpAny _ _ (do ret (← mkInt 1)) _ _ s
    refine wpAny_ret_mkInt ?_
    show wpAny _ _ (if _ then _ else _) Q E _
    refine then_way (by rfl) (wpAny_pure h)
theorem lay1B (led b : Bool) : layNew (tabS led #[]) #[] (hB b) (.bool b) = (#[(hB b, .bool b)], tabS led #[(hB b).toNat], false, false) := by
  cases b <;> cases led <;> rfl
theorem scan_bool {a : Addr} {led b : Bool} {ep : Nat} (hS : s.heap.get? a = some (setOb led #[(hB b, .bool b)] #[(hB b).toNat] ep)) {Q : ScanMet → Shared → Prop} (hq : Q (.found 0) s) :
    wpAny (model prog w) A (setScan a (.bool b) (hB b) true #[(hB b, .bool b)]) Q E s := by
  show wpAny _ _ (setScanFrom a (.bool b) (hB b) true [(hB b, .bool b)] 0) _ _ s
  unfold setScanFrom
  rw [if_pos (by simp)]
  refine wpAny_bind (wpAny_setEpoch_of hS rfl (by rfl) ?_)
  refine wpAny_bind ?_
  unfold eqBool
  refine then_way (by simp) ?_
  refine wpAny_bind (wpAny_rule (wpAny_pure ?_))
  simp only [Bool.and_self, ↓reduceIte]
  exact wpAny_pure hq
/-- the set after the values `out`, all alike -/
noncomputable def accS (led : Bool) : List Bool → Obj
  | [] => setOb led #[] #[] 0
  | b :: _ => setOb led #[(hB b, .bool b)] #[(hB b).toNat] 1
theorem add_bool {a : Addr} {led b : Bool} {out : List Bool} {Q : Value → Shared → Prop} (hall : ∀ c ∈ out, c = b) (hS : s.heap.get? a = some (accS led out)) (q : ∀ h' tk, h'.get? a = some (accS led (out ++ [b])) → Heap.SameBut a s.heap h' → Q .none { s with heap := h', toks := tk }) :
    wpAny (model prog w) A (call (.builtin "set.add") [.ref a, .bool b]) Q E s := by
  have hT : s.TypeIs (.ref a) "set" := ⟨_, hS, by cases out <;> rfl⟩
  refine wpAny_call_entry PySem.F.slot_set_add hT PySem.F.entry_set_add ?_ (PySem.F.args_set_add_2 _ _)
  unfold Builtin.«set.add» Builtin.Frozenset.oneOther
  simp only [List.isEmpty_nil, bind_assoc]
  unfold Builtin.Frozenset.addrOf setAdd
  refine wpAny_bind (wpAny_pure ?_)
  try dsimp only
  refine wpAny_bind (wpAny_pure ?_)
  try dsimp only
  refine wpAny_bind ?_
  refine wpAny_holding ?_
  refine wpAny_bind (pyHash_bool ?_)
  cases out with
  | nil =>
    refine add_new (s := { s with toks := s.toks + 1 }) (by rfl) hS (scan_ok0 _ rfl) (fun Q' hq => scan_nil rfl hq) (lay1B _ _) (by rfl) (by simp) (by simp [sizeLine_eq]) fun h' hS' hsb => ?_
    show wpAny _ _ (ret Value.none) _ _ _
    exact wpAny_pure ⟨_, rfl, q h' _ hS' hsb⟩
  | cons c out =>
    have e := hall c (.head _)
    subst e
    refine add_old (s := { s with toks := s.toks + 1 }) (led := led) (es := #[(hB c, .bool c)]) (pl := #[(hB c).toNat]) (ep := 1) (i := 0) (by rfl) hS (by simp [byScan, Value.scannable, scanBound]) (fun Q' hq => scan_bool (s := { s with toks := s.toks + 1 }) (led := led) (ep := 1) hS hq) ?_
    show wpAny _ _ (ret Value.none) _ _ _
    exact wpAny_pure ⟨_, rfl, q s.heap _ hS (Heap.SameBut.refl a s.heap)⟩
end
end Mine


namespace Mine
section
variable {prog : Program} {w : World} {hb : Heap} {k : Nat} {Γ Γ' : Lay} {sc csc : Scope}
theorem comp_coreS {fi : Rho → Option (List PyData)} {cap : List (Option Nat)} {t : Tgt} {ft : Rho → Option Bool} {fe : Rho → Option PyData} {elt target iter : Expr} {ifs : List Expr} {pos pos₂ : Pos} {env : Env} {A : Around} {Y X : Addr → Prop} {ρ : Rho} {s : Shared}
    {l : List Bool} {c : Bool} {use : Option (Value → Sem Unit)} {Q : Value → Shared → Prop} {E : Value → Shared → Prop}
    (hok : compOk Γ Γ' sc csc cap t = true) (hi : SimI prog w hb k Γ sc fi iter) (ht : SimA prog w hb k Γ' (relabelS csc sc) (bindT t) target) (htest : SimTs prog w hb k Γ' (relabelS csc sc) ft ifs) (helt : SimE prog w hb k Γ' (relabelS csc sc) fe elt)
    (hs : ∀ env x, foldedSetIterable iter env x = pure x)
    (O : EnvOk hb sc env) (R : Room k A) (S : St hb Γ env Y X ρ s) (hf : compL fi cap t ft fe ρ = some (l.map .bool)) (hall : ∀ x ∈ l, x = c)
    (hend : ∀ (D C : Addr) (s' : Shared), Kp s s' → s.heap.get? D = none → s.heap.get? C = none → C ≠ D → s'.heap.get? D = some (accS (!byText w) l) →
      (∃ m, s'.heap.Ns C m) → compPost (model prog w) A E use Q (.ref D) C (.ok .next) s') :
    wpAny (model prog w) A (comprehension (.SetComp elt [⟨target, iter, ifs, 0⟩] csc pos) csc env pos₂ (newSet (.type "set")) false (eval iter env) use) Q E s := by
  have F := compOk_facts hok
  unfold compL at hf
  split at hf
  · cases hf
  rename_i ds eds
  by_cases hlen : ds.length ≤ lim
  case neg => rw [if_neg hlen] at hf; cases hf
  rw [if_pos hlen] at hf
  obtain ⟨m₀, V₀, _⟩ := S.vars
  have hclo : ∀ n, (n, NameKind.free) ∈ csc.names → ∃ c, env.cells.lookup n = some c := fun n hn => by
    have q := F.free n hn
    unfold isCap at q
    have hk : env.kindOf n = some .cell ∨ env.kindOf n = some .free := by
      unfold Env.kindOf; rw [O.scope]
      split at q <;> simp_all
    obtain ⟨c, e, _⟩ := V₀.cell n hk
    exact ⟨c, e⟩
  refine wpAny_comprehension_free (cl := clGo env.cells csc.names []) rfl (hs env) (closure_is hclo) F.kind (fun x hx hl => lookup_of_nodup F.nd (by rw [← hl]; exact hx)) ?_
  refine hi env O A Y X ρ s ds _ E R S eds fun it s₂ K₂ hit => ?_
  obtain ⟨I, fp, wr, P, St', rfl, T⟩ := hit
  have W := T.W A R.1
  refine newSet_led (newEnv_comp ?_)
  obtain ⟨D, eD⟩ : ∃ D : Nat, D = s₂.heap.objs.size := ⟨_, rfl⟩
  obtain ⟨C, eC⟩ : ∃ C : Nat, C = D + 1 := ⟨_, rfl⟩
  have sz3 : (s₂.heap.push (setOb (!byText w) #[] #[] 0)).objs.size = C := by rw [Heap.size_push, eC, eD]
  obtain ⟨h₅, e5⟩ : ∃ h₅ : Heap, h₅ = pushCells ((s₂.heap.push (setOb (!byText w) #[] #[] 0)).push { cls := .type "dict", data := .dict #[] }) csc.names := ⟨_, rfl⟩
  obtain ⟨cenv, ec⟩ : ∃ cenv : Env, cenv = cEnv csc sc env C (clGo env.cells csc.names []) := ⟨_, rfl⟩
  obtain ⟨O', S₅, k25, hD5, nC, nD, cellW⟩ := cEnv_start (oD := setOb (!byText w) #[] #[] 0) rfl (t := t) (cap := cap) F O S K₂ T.fresh (fun b hb => T.alive 0 _ T.st b (W.sub b hb)) D C h₅ cenv eD eC e5 ec
  have lt2 : ∀ (a : Nat) (o : Obj), s₂.heap.get? a = some o → a < D := by
    intro a o e
    have q : @LT.lt Nat _ a s₂.heap.objs.size := Heap.lt_size e
    omega
  have goalEnv : ({ scope := relabel csc env, locals := (s₂.heap.push (setOb (!byText w) #[] #[] 0)).objs.size, globals := env.globals, cells := cellsFrom ((s₂.heap.push (setOb (!byText w) #[] #[] 0)).objs.size + 1) csc.names (clGo env.cells csc.names []), qual := env.qual, func := none, code := env.code, frame := env.frame, builtins := env.builtins } : Env) = cenv := by
    rw [ec, sz3, relabel_eq O.scope]; rfl
  have eL : cenv.locals = C := by rw [ec]; rfl
  show codeAny (model prog w) A (.compStart _ 0 (.ref I) (.ref s₂.heap.objs.size) ({ scope := relabel csc env, locals := (s₂.heap.push (setOb (!byText w) #[] #[] 0)).objs.size, globals := env.globals, cells := cellsFrom ((s₂.heap.push (setOb (!byText w) #[] #[] 0)).objs.size + 1) csc.names (clGo env.cells csc.names []), qual := env.qual, func := none, code := env.code, frame := env.frame, builtins := env.builtins } : Env))
    (compPost (model prog w) A E use Q (.ref s₂.heap.objs.size) (s₂.heap.push (setOb (!byText w) #[] #[] 0)).objs.size)
    { s₂ with heap := pushCells ((s₂.heap.push (setOb (!byText w) #[] #[] 0)).push { cls := .type "dict", data := .dict #[] }) csc.names }
  rw [goalEnv, ← e5, sz3, ← eD]
  clear goalEnv
  -- the facts of the sets
  generalize hY₀ : (fun a : Addr => X a ∨ a ∈ D :: wr) = Y₀ at S₅
  generalize hX₀ : (fun a : Addr => (X a ∨ a ∈ D :: wr) ∨ a = C ∨ (@LT.lt Nat _ C a ∧ ∃ n, cenv.cells.lookup n = some a)) = X₀ at S₅
  have wrY : ∀ b ∈ D :: wr, Y₀ b := fun b h => by rw [← hY₀]; exact .inr h
  have XY : ∀ b, X b → Y₀ b := fun b h => by rw [← hY₀]; exact .inl h
  have Yc : ∀ b, Y₀ b → X b ∨ b ∈ D :: wr := fun b h => by rw [← hY₀] at h; exact h
  have oldX : ∀ b o, s₂.heap.get? b = some o → X₀ b → X b ∨ b ∈ wr := by
    intro b o e h
    have l := lt2 b o e
    rw [← hX₀] at h
    rcases h with (h | h) | h | h
    · exact .inl h
    · rcases List.mem_cons.mp h with h | h
      · have h' : @Eq Nat b D := h
        omega
      · exact .inr h
    · have h' : @Eq Nat b C := h
      omega
    · have h' := h.1
      omega
  have XinX₀ : ∀ b, X b → X₀ b := fun b h => by rw [← hX₀]; exact .inl (.inl h)
  have wrX₀ : ∀ b ∈ D :: wr, X₀ b := fun b h => by rw [← hX₀]; exact .inl (.inr h)
  have CX₀ : X₀ C := by rw [← hX₀]; exact .inr (.inl rfl)
  have wr2 : ∀ b ∈ wr, ∃ o, s₂.heap.get? b = some o := fun b hb => T.alive 0 _ T.st b (W.sub b hb)
  have Dwr : D ∉ wr := fun h => by obtain ⟨o, e⟩ := wr2 D h; rw [nD] at e; cases e
  have nYC : ¬ Y₀ C := by have := S₅.locX.2; rw [eL] at this; exact this
  have Cwr : C ∉ D :: wr := fun h => nYC (wrY C h)
  have CD : C ≠ D := fun h => Cwr (h ▸ .head _)
  -- the loop
  let Inv : Nat → Shared → Prop := fun n s' => ∃ j X' ρ' out, n = ds.length + 1 - j ∧ j ≤ ds.length ∧ St' j s'.heap ∧ LStep (D :: wr) Y₀ X₀ X' { s₂ with heap := h₅ } s' ∧ St hb Γ' cenv Y₀ X' ρ' s' ∧ Below (mkRho cap ρ) ρ' ∧
    s'.heap.get? D = some (accS (!byText w) out) ∧ ∃ rest, compGo (mkRho cap ρ) t ft fe (ds.drop j) = some (rest.map .bool) ∧ out ++ rest = l
  have start : Inv (ds.length + 1) { s₂ with heap := h₅ } := by
    exact ⟨0, X₀, mkRho cap ρ, [], rfl, Nat.zero_le _, W.frame _ _ _ T.st fun b _ o e => k25 b o e, LStep.refl _ _ _ _, S₅, fun _ _ e => e, hD5, l, hf, rfl⟩
  have loop : codeAny (model prog w) A (.compLoop (.SetComp elt [⟨target, iter, ifs, 0⟩] csc pos) 0 (.ref I) (.ref D) cenv) (compPost (model prog w) A E use Q (.ref D) C) { s₂ with heap := h₅ } := by
    refine compLoopS_any Inv ?_ (ds.length + 1) start
    rintro n s' ⟨j, X', ρ', out, rfl, hj, hst, L, S', hbel, eo, rest, hgo, happ⟩
    have frameSt : ∀ {i : Nat} {sa sb : Shared}, St' i sa.heap → (∀ b ∈ fp, ∀ ob, sa.heap.get? b = some ob → sb.heap.get? b = some ob) → St' i sb.heap := fun h q => W.frame _ _ _ h q
    have fpD : D ∉ fp := fun h => by obtain ⟨o, e⟩ := T.alive 0 _ T.st D h; rw [nD] at e; cases e
    have fpX : ∀ {Xb : Addr → Prop} {sb : Shared}, LStep (D :: wr) Y₀ X₀ Xb { s₂ with heap := h₅ } sb → ∀ b ∈ fp, b ∉ wr → ¬ Xb b := by
      intro Xb sb l b hb hw hx
      obtain ⟨ob, eb⟩ := T.alive 0 _ T.st b hb
      rcases l.fresh b hx with q | q
      · rcases oldX b ob eb q with q | q
        · exact T.rest b hb hw q
        · exact hw q
      · have q' : h₅.get? b = none := q
        rw [k25 b ob eb] at q'; cases q'
    rcases Nat.lt_or_ge j ds.length with hlt | hge
    · refine W.item j _ _ _ hlt hst fun v h₁ tk₁ hP hst₁ hk₁ => ?_
      have hal := T.alive _ _ hst₁
      have S₁ := (S'.weaken hbel).other (wr := wr) (h' := h₁) (tk := tk₁) (fun b h => wrY b (.tail _ h)) hk₁ (fun b h => hal b (W.sub b h)) fun n c e h => cellW n c e (.tail _ h)
      have L₁ := L.other (h' := h₁) (tk := tk₁) fun b o hb e => hk₁ b o (fun h => hb (.tail _ h)) e
      have ed : ds[j]? = some ds[j] := List.getElem?_eq_getElem hlt
      have hr := T.item j v _ hP ed
      have hr₁ : Rv X' h₁ v ds[j] := hr.move fun a o nx e _ => by
        have h1 : ¬ X' a := fun x => by
          rcases L.fresh a x with q | q
          · exact nx (oldX a o e q)
          · have q' : h₅.get? a = none := q
            rw [k25 a o e] at q'; cases q'
        have h2 : a ∉ D :: wr := fun h => h1 (L.grow a (wrX₀ a h))
        exact ⟨h1, hk₁ a o (fun h => h2 (.tail _ h)) (L.keep a o h2 (fun z => h1 z.1) (k25 a o e))⟩
      have eo₁ : h₁.get? D = some (accS (!byText w) out) := hk₁ D _ Dwr eo
      obtain ⟨oI, eI, sI⟩ := T.safe _ _ hst₁
      refine letGo_ok eI sI ?_
      rw [List.drop_eq_getElem_cons hlt] at hgo
      unfold compGo at hgo
      cases eb : bindT t ds[j] (mkRho cap ρ) with
      | none => rw [eb] at hgo; cases hgo
      | some ρ₁ =>
        rw [eb] at hgo
        dsimp only at hgo
        refine ht cenv O' A Y₀ X' _ ρ₁ _ v ds[j] _ _ R S₁ hr₁ eb fun s₃ X₃ st₃ S₃ => ?_
        have L₃ := L₁.step st₃ wrX₀
        have hbel₃ := bindT_below F.ids eb
        have hst₃ : St' (j + 1) s₃.heap := frameSt (sa := { s' with heap := h₁, toks := tk₁ }) hst₁ fun b hb ob e => st₃.keep b ob (fun z => by
          by_cases hw : b ∈ wr
          · exact z.2 (wrY b (.tail _ hw))
          · exact fpX L₃ b hb hw z.1) e
        have eo₃ : s₃.heap.get? D = some (accS (!byText w) out) := st₃.keep D _ (fun z => z.2 (wrY D (.head _))) eo₁
        cases et : ft ρ₁ with
        | none => rw [et] at hgo; cases hgo
        | some b =>
          rw [et] at hgo
          refine htest cenv O' A Y₀ X₃ ρ₁ s₃ b _ _ R S₃ et fun s₄ K₄ => ?_
          have S₄ := S₃.keeps K₄
          have L₄ := L₃.step (Step.of_kp (Y := Y₀) (X := X₃) K₄) wrX₀
          have hst₄ : St' (j + 1) s₄.heap := frameSt (sa := s₃) hst₃ fun b _ ob e => K₄.get b ob e
          cases b with
          | false =>
            rw [if_neg (by decide)]
            exact ⟨_, dec_lt hlt, j + 1, X₃, ρ₁, out, rfl, hlt, hst₄, L₄, S₄, hbel₃, K₄.get _ _ eo₃, rest, hgo, happ⟩
          | true =>
            rw [if_pos rfl]
            dsimp only at hgo
            cases ee : fe ρ₁ with
            | none => rw [ee] at hgo; cases hgo
            | some e₁ =>
              rw [ee] at hgo
              dsimp only at hgo
              cases eg : compGo (mkRho cap ρ) t ft fe (ds.drop (j + 1)) with
              | none => rw [eg] at hgo; cases hgo
              | some rest' =>
                rw [eg] at hgo
                cases rest with
                | nil => cases hgo
                | cons c₁ rest =>
                cases hgo
                refine helt cenv O' A Y₀ X₃ ρ₁ s₄ _ _ _ R S₄ ee fun v₅ s₅ K₅ r₅ => ?_
                have eo₅ := K₅.get _ _ (K₄.get _ _ eo₃)
                have S₅' := S₄.keeps K₅
                have L₅ := L₄.step (Step.of_kp (Y := Y₀) (X := X₃) K₅) wrX₀
                have hst₅ : St' (j + 1) s₅.heap := frameSt (sa := s₄) hst₄ fun b _ ob e => K₅.get b ob e
                cases r₅
                have ec₁ : c₁ = c := hall c₁ (by rw [← happ]; simp)
                refine add_bool (out := out) (fun x hx => (hall x (by rw [← happ]; exact List.mem_append_left _ hx)).trans ec₁.symm) eo₅ fun h₆ tk₆ eo₆ hs₆ => ?_
                have kD : ∀ b ob, b ≠ D → s₅.heap.get? b = some ob → h₆.get? b = some ob := fun b ob hb e => hs₆.extBut b ob hb e
                have S₆ := S₅'.other (wr := [D]) (h' := h₆) (tk := tk₆) (fun b h => by rw [List.mem_singleton.mp h]; exact wrY D (.head _)) (fun b ob hb e => kD b ob (fun h => hb (by rw [h]; exact .head _)) e) (fun b h => by rw [List.mem_singleton.mp h]; exact ⟨_, eo₆⟩)
                  fun n c e h => cellW n c e (by rw [List.mem_singleton.mp h]; exact .head _)
                have L₆ := L₅.other (h' := h₆) (tk := tk₆) fun b ob hb e => kD b ob (fun h => hb (h ▸ .head _)) e
                exact ⟨_, dec_lt hlt, j + 1, X₃, ρ₁, out ++ [c₁], rfl, hlt, frameSt (sa := s₅) (sb := { s₅ with heap := h₆, toks := tk₆ }) hst₅ fun b hb ob e => kD b ob (fun h => fpD (h ▸ hb)) e, L₆, S₆, hbel₃, eo₆, rest, eg, by rw [← happ, List.append_assoc]; rfl⟩
    · have hjn : j = ds.length := Nat.le_antisymm hj hge
      subst hjn
      rw [List.drop_length] at hgo
      cases rest with
      | cons _ _ => cases hgo
      | nil =>
      rw [List.append_nil] at happ
      subst happ
      refine W.done _ _ _ hst fun h₁ tk₁ hk₁ => ?_
      have eo₁ : h₁.get? D = some (accS (!byText w) out) := hk₁ D _ Dwr eo
      have nowr : ∀ b ob, s.heap.get? b = some ob → b ∉ D :: wr := fun b ob e h => by
        rcases List.mem_cons.mp h with h | h
        · have e' := K₂.get b ob e
          rw [h, nD] at e'; cases e'
        · rw [T.fresh b h] at e; cases e
      refine hend D C { s' with heap := h₁, toks := tk₁ } ⟨?_, fun b ob e => ?_⟩ ?_ ?_ CD eo₁ ?_
      · obtain ⟨h, t, e⟩ := K₂.eqs
        obtain ⟨h', t', e'⟩ := L.eqs
        subst e'
        subst e
        exact ⟨_, _, rfl⟩
      · have nb := nowr b ob e
        have e2 := K₂.get b ob e
        refine hk₁ b ob (fun h => nb (.tail _ h)) (L.keep b ob nb (fun z => z.2 ?_) (k25 b ob e2))
        rcases L.fresh b z.1 with q | q
        · exact (oldX b ob e2 q).elim (XY b) fun h => absurd (.tail _ h) nb
        · have q' : h₅.get? b = none := q
          rw [k25 b ob e2] at q'; cases q'
      · cases e : s.heap.get? D with
        | none => rfl
        | some ob => rw [K₂.get D ob e] at nD; cases nD
      · cases e : s.heap.get? C with
        | none => rfl
        | some ob => rw [K₂.get C ob e] at nC; cases nC
      · obtain ⟨m, V, _⟩ := S'.vars
        obtain ⟨ml, hn, _⟩ := V.ns
        rw [eL] at hn
        exact ⟨ml, hn.at' fun ob e => hk₁ C ob (fun h => Cwr (.tail _ h)) e⟩
  exact compStart_set loop (W.self 0 _ _ _ (W.frame _ _ _ T.st fun b _ o e => k25 b o e) loop)

/-- a set of one unpacked -/
theorem unpack_one {A : Around} {E : Value → Shared → Prop} {s : Shared} {S : Addr} {led b : Bool} {out : List Bool} {Q : List Value → Shared → Prop} (hh : A.handled = none) (hled : led = !byText w) (hS : s.heap.get? S = some (accS led (b :: out)))
    (q : ∀ s', Kp s s' → Q [.bool b] s') : wpAny (model prog w) A (unpackItems (.ref S) 1 none) Q E s := by
  subst hled
  have hT : s.TypeIs (.ref S) "set" := ⟨_, hS, rfl⟩
  have G := good1 (hB b).toNat
  have hne : S ≠ s.heap.objs.size := Nat.ne_of_lt (Heap.lt_size hS)
  have eo : ordS w S 1 #[(hB b, .bool b)] = #[(hB b, .bool b)] := by unfold ordS; split; exact pick1 _ _; rfl
  have W := walks_set (prog := prog) (w := w) (A := A) (I := s.heap.objs.size) (S := S) (es := #[(hB b, .bool b)]) (pl := #[(hB b).toNat]) (ep := 1) hh hne G (by rw [eo])
  have slot0 : slotS w #[(hB b).toNat] 0 = 0 := by unfold slotS plAt; split <;> rfl
  unfold unpackItems
  refine wpAny_bind ?_
  unfold notIterableAtAll
  refine wpAny_bind (wpAny_specialOf hT PySem.F.slot_set_iter.lookup ?_)
  refine wpAny_pure ?_
  simp only [Bool.false_eq_true, if_false]
  refine wpAny_bind (wpAny_holding (pyIter_set (es := #[(hB b, .bool b)]) G hS ?_))
  refine wpAny_bind (wpAny_holding ?_)
  show wpAny _ _ (pyNext (.ref s.heap.objs.size) >>= _) _ _ _
  refine wpAny_bind (W.item 0 _ _ _ (by simp) ⟨by rw [slot0]; exact Heap.get?_push_size _ rfl, Heap.get?_push_of_some _ hS, Nat.zero_le _⟩ fun v h' tk hv st hk => ?_)
  have ev : v = .bool b := by rw [eo] at hv; simpa using hv.symm
  subst ev
  refine wpAny_bind (wpAny_holding ?_)
  show wpAny _ _ (pure []) _ _ _
  refine wpAny_pure (wpAny_pure ?_)
  refine if_notP (by simp) ?_
  refine wpAny_bind (wpAny_holding (W.done { s with heap := h', toks := tk } _ _ st fun h'' tk' hk' => ?_))
  simp only [Option.isSome_none, Bool.false_eq_true, if_false]
  refine wpAny_pure (q _ (Kp.mk' fun c o e => ?_))
  have hc : c ∉ [s.heap.objs.size] := by simpa using Nat.ne_of_lt (Heap.lt_size e)
  exact hk' c o hc (hk c o hc (Heap.get?_push_of_some _ e))

noncomputable def boolsOf : List PyData → Option (List Bool)
  | [] => some []
  | .bool x :: r => (boolsOf r).map (x :: ·)
  | _ :: _ => none
theorem bools_map : ∀ {ds : List PyData} {ks : List Bool}, boolsOf ds = some ks → ds = ks.map .bool
  | [], _, h => by cases h; rfl
  | d :: ds, ks, h => by
    unfold boolsOf at h
    split at h
    · rename_i e; cases e
    · rename_i x r e
      cases e
      cases el : boolsOf ds with
      | none => rw [el] at h; cases h
      | some l => rw [el] at h; cases h; rw [bools_map el]; rfl
    · cases h
/-- `x, = {elt for t in it}` of equal truth values -/
noncomputable def oneofD (fi : Rho → Option (List PyData)) (cap : List (Option Nat)) (t : Tgt) (ft : Rho → Option Bool) (fe : Rho → Option PyData) (i : Nat) (ρ : Rho) : Option Out := match compL fi cap t ft fe ρ with
  | some ds => match boolsOf ds with
    | some (b :: l) => if l.all (· == b) then some (.next (rset ρ i (.bool b))) else none
    | _ => none
  | none => none
theorem S_oneof {fi : Rho → Option (List PyData)} {cap : List (Option Nat)} {t : Tgt} {ft : Rho → Option Bool} {fe : Rho → Option PyData} {elt target iter : Expr} {ifs : List Expr} {i : Nat} {x : Str} {p tp pos cpos : Pos} {n : Nat}
    (hi' : Γ[i]? = some (x, .loc)) (hk : isStore sc x = true)
    (hok : compOk Γ Γ' sc csc cap t = true) (hi : SimI prog w hb k Γ sc fi iter) (ht : SimA prog w hb k Γ' (relabelS csc sc) (bindT t) target) (htest : SimTs prog w hb k Γ' (relabelS csc sc) ft ifs) (helt : SimE prog w hb k Γ' (relabelS csc sc) fe elt)
    (hs : ∀ env x, foldedSetIterable iter env x = pure x)
    (hsw : ∀ env : Env, env.scope = sc → swapsWithSole [.Tuple [.Name x p] n tp] (.SetComp elt [⟨target, iter, ifs, 0⟩] csc cpos) pos.line env = pure false) (hw : ∀ env : Env, env.scope = sc → swappedStores [.Tuple [.Name x p] n tp] (.SetComp elt [⟨target, iter, ifs, 0⟩] csc cpos) env = pure none) :
    Sim1 prog w hb k Γ sc (oneofD fi cap t ft fe i) (.Assign [.Tuple [.Name x p] n tp] (.SetComp elt [⟨target, iter, ifs, 0⟩] csc cpos) pos) := by
  intro env O A Y X ρ s o Q E R S hf q
  unfold oneofD at hf
  cases el : compL fi cap t ft fe ρ with
  | none => rw [el] at hf; cases hf
  | some ds =>
    rw [el] at hf
    dsimp only at hf
    cases eb : boolsOf ds with
    | none => rw [eb] at hf; cases hf
    | some bl =>
      rw [eb] at hf
      cases bl with
      | nil => cases hf
      | cons b l =>
        dsimp only at hf
        by_cases hal : l.all (· == b) = true
        case neg => rw [if_neg hal] at hf; cases hf
        rw [if_pos hal] at hf
        cases hf
        have em := bools_map eb
        subst em
        refine Assign_Tuple ?_ (hsw env O.scope) (hw env O.scope)
        refine comp_coreS (c := b) hok hi ht htest helt hs O R S el (fun y hy => ?_) fun D C s' K nD nC CD eo hN => ?_
        · rcases List.mem_cons.mp hy with rfl | hy
          · rfl
          · simpa using List.all_eq_true.mp hal y hy
        obtain ⟨m, hn⟩ := hN
        refine ⟨m, hn, fun h' hs' => ?_⟩
        have kC : ∀ b ob, b ≠ C → s'.heap.get? b = some ob → h'.get? b = some ob := fun b ob hb e => hs'.extBut b ob hb e
        have K' : Kp s { s' with heap := h' } := by
          refine ⟨?_, fun b ob e => kC b ob (fun h => by rw [h, nC] at e; cases e) (K.get b ob e)⟩
          obtain ⟨h, t, rfl⟩ := K.eqs
          exact ⟨_, _, rfl⟩
        show wpAny _ _ (assign (.Tuple [.Name x p] n tp) env (.ref D)) _ _ _
        rw [arm_assign_Tuple]
        refine wpAny_bind (wpAny_standAt ?_)
        unfold unpack
        refine wpAny_bind (wpAny_holding ?_)
        refine unpack_one (s := { s' with heap := h' }) (led := !byText w) (b := b) (out := l) R.1 rfl (kC D _ (Ne.symm CD) eo) fun s'' K'' => ?_
        show wpAny _ _ (assignInOrder [assign (.Name x p) env] [.bool b]) _ _ _
        refine wpAny_bind (wpAny_holding (wpAny_assign_Name ?_))
        refine storeS O ((S.keeps K').keeps K'') hi' (isStore_cases hk) (.bool b) fun s₃ st S₃ => ?_
        exact wpAny_pure (q .next s₃ ⟨rfl, X, (Step.of_kp (K'.trans K'')).trans st, S₃⟩)
end
end Mine


namespace Mine
/-! `tuple(map(f, xs))` -/
section
variable {prog : Program} {w : World} {A : Around} {E : Value → Shared → Prop} {s : Shared}
variable {I : Addr} {fp wr : List Addr} {G : Array GenState → Array GenState → Prop} {n : Nat} {P : Nat → Value → Prop} {St : Nat → Shared → Prop}
theorem tuple_new_map {Q₁ : Value → Shared → Prop} (W : WalksS prog w A.in1.in1 I fp wr G n P St) (hT : ∀ i s, St i s → s.TypeIs (.ref I) "map") (hst : St 0 s) (hfp : ∀ b ∈ fp, b < s.heap.objs.size) (hI : I ∈ fp)
    (h : ∀ s' acc, Moved wr G s s' → ItemsOf P acc n → Q₁ (.ref s'.heap.objs.size) { s' with heap := s'.heap.push { cls := .type "tuple", data := .seq acc } }) (hsz : n ≤ sizeLine) :
    codeAny (model prog w) A (.call (.builtin "tuple.__new__") ⟨[.type "tuple", .ref I], []⟩) (wants Q₁ E) s := by
  refine codeAny_of_tree ?_
  show wpAny _ A.in1 (do checkBuiltinCall "tuple.__new__" ⟨[.type "tuple", .ref I], []⟩; again (.builtin "tuple.__new__" ⟨[.type "tuple", .ref I], []⟩)) _ _ s
  refine wpAny_bind (wpAny_of_eq (PySem.F.newCall_tuple_1 _) (wpAny_pure ⟨plainId_quiet PySem.F.plain_tuple_new _, codeAny_builtin PySem.F.entry_tuple_new ?_⟩))
  rw [Around.under_plainId PySem.F.plain_tuple_new _]
  have hsub := sub_tuple_self
  have hinit := init_tuple_lookup
  have hmh := madeHere_tuple
  have hTI := hT 0 s hst
  wp_walk using wpAny_typeOf hTI, collect_map (hn := hsz) W hT hst hfp hI
  intro s' acc hm hacc
  show wpAny _ _ (Builtin.Tuple.tupleExact acc.toList.toArray >>= fun v => ret v) _ _ _
  unfold Builtin.Tuple.tupleExact
  refine wpAny_bind (wpAny_newObj_type ?_ (by show acc.toList.toArray.size ≤ sizeLine; simp only [Array.toArray_toList]; rw [hacc.1]; exact hsz))
  refine wpAny_pure ?_
  have e : acc.toList.toArray = acc := by simp
  rw [e]
  exact h s' acc hm hacc
theorem call_tuple_map {Q : Value → Shared → Prop} (W : WalksS prog w A.in1.in1.in1 I fp wr G n P St) (hT : ∀ i s, St i s → s.TypeIs (.ref I) "map") (hst : St 0 s) (hfp : ∀ b ∈ fp, b < s.heap.objs.size) (hI : I ∈ fp)
    (hQ : ∀ s' acc, Moved wr G s s' → ItemsOf P acc n → Q (.ref s'.heap.objs.size) { s' with heap := s'.heap.push { cls := .type "tuple", data := .seq acc } }) (hsz : n ≤ sizeLine) :
    wpAny (model prog w) A (call (.type "tuple") [.ref I]) Q E s := by
  refine callType_codes (Q₁ := fun obj s₁ => s₁.TypeIs obj "tuple" ∧ Q obj s₁) PySem.F.called_tuple (PySem.F.typeCall_tuple_1 _) PySem.F.entry_object_init
    (tuple_new_map (hsz := hsz) W hT hst hfp hI fun s' acc hm hacc => ⟨⟨_, Heap.get?_push_size _ rfl, rfl⟩, hQ s' acc hm hacc⟩) fun obj s₁ h₁ => ?_
  exact ⟨h₁.1, PySem.F.args_object_init_2 obj _, object_init_meets PySem.F.called_tuple.init.lookup PySem.F.called_tuple.made (by decide) prog w A.in1 _ s₁ ⟨h₁.1, rfl, h₁.2⟩⟩
end
section
variable {prog : Program} {w : World} {hb : Heap} {k k₀ : Nat} {Γ : Lay} {sc : Scope} {mg mb : Str → Option Value}
noncomputable def tupmapD (f : Rho → Option PyData) (ρ : Rho) : Option PyData := match f ρ with
  | some (.list ds) => if ds.length ≤ lim then (match strsOf ds with
    | some ks => some (.tuple (ks.map .str))
    | none => none) else none
  | _ => none
theorem Room.in1 {k : Nat} {A : Around} (R : Room (k + 1) A) : Room k A.in1.in1.in1.in1 := by
  obtain ⟨h1, h2, h3⟩ := R
  refine ⟨h1, ?_, ?_⟩
  · show A.depth + k < recursionLimit; omega
  · show A.units + 1 + 1 + 1 + 1 + 20 * k + 200 < cLine; omega
noncomputable def baseL (hb : Heap) : List Addr := (List.range hb.objs.size).filter fun b => (hb.get? b).isSome
theorem baseL_mem {b : Addr} {o : Obj} (e : hb.get? b = some o) : b ∈ baseL hb := List.mem_filter.mpr ⟨List.mem_range.mpr (Heap.lt_size e), by rw [e]; rfl⟩
theorem baseL_of {b : Addr} (h : b ∈ baseL hb) : ∃ o, hb.get? b = some o := Option.isSome_iff_exists.mp (List.mem_filter.mp h).2
theorem R_tuplemap {a : Addr} {g : List PyData → Option PyData} {f : Rho → Option PyData} {e : Expr} {x : Str} {p p2 p3 cp pos : Pos} (G : GlobOk mg mb hb) (hk : isGlob sc "tuple" = true) (hn : mg "tuple" = none) (hv : mb "tuple" = some (.type "tuple")) (hk2 : isGlob sc "map" = true) (hn2 : mg "map" = none) (hv2 : mb "map" = some (.type "map"))
    (hk3 : isGlob sc x = true) (hv3 : mg x = some (.ref a)) (hlt : k₀ < k) (hc : CallOk prog w hb k₀ (.ref a) g) (hg : ∀ z, g [.str z] = some (.str z)) (h : SimE prog w hb k Γ sc f e)
    (he : ∀ env, starEach [Expr.Name x p3, e] env = (false, eval (.Name x p3) env) :: starEach [e] env) (he' : ∀ env, starEach [e] env = (false, eval e env) :: starEach [] env)
    (he2 : ∀ env, starEach [Expr.Call (.Name "map" p2) [.Name x p3, e] [] cp] env = (false, eval (Expr.Call (.Name "map" p2) [.Name x p3, e] [] cp) env) :: starEach [] env) :
    SimE prog w hb k Γ sc (tupmapD f) (.Call (.Name "tuple" p) [.Call (.Name "map" p2) [.Name x p3, e] [] cp] [] pos) := by
  intro env O A Y X ρ s d Q E R S hf q
  unfold tupmapD at hf
  split at hf
  case h_2 => cases hf
  rename_i ds ef
  split at hf
  case isFalse => cases hf
  rename_i hl
  split at hf
  case h_2 => cases hf
  rename_i ks ek
  cases hf
  have em := strs_map ek
  subst em
  refine Call_ (load_blt G O S.base hk hn hv ?_) rfl
  refine PyProof.Rows.callWith_type1 (wpAny_items_cons (Call_ (load_blt G O S.base hk2 hn2 hv2 ?_) rfl) (he2 env)) (he2 env) rfl
  refine PyProof.Rows.callWith_type1 (wpAny_items_cons (load_glob G O S.base hk3 hv3 (wpAny_items_cons (h env O A Y X ρ s _ _ E R S ef fun v s₁ K₁ r₁ => wpAny_items_nil ?_) (he' env))) (he env)) (he env) (by rw [he' env]; rfl)
  obtain ⟨l, o, vs, n, rfl, xa, e1, co, dt, r⟩ := r₁.list_inv
  have e1' : s₁.heap.get? l = some { cls := .type "list", data := .seq vs n } := by rw [e1, co]
  refine call_map e1' ?_
  refine wpAny_items_nil ?_
  have S₁ := S.keeps K₁
  have lsz : l < s₁.heap.objs.size := Heap.lt_size e1
  have hlen := r.length
  rw [Array.length_toList, List.length_map] at hlen
  rw [List.length_map] at hl
  have l1 := lim_line
  have R' : Room k₀ A.in1.in1.in1.in1 := Room.in1 (R.le hlt)
  have W := walks_map (prog := prog) (w := w) (A := A.in1.in1.in1) (mo := s₁.heap.objs.size + 2) (its := s₁.heap.objs.size + 1) (it := s₁.heap.objs.size) (l := l) (f := .ref a) (items := vs) (P := fun i v => ∃ z t, ks[i]? = some z ∧ v = .str z t) (fb := baseL hb) (Base := fun h => ∀ a o, hb.get? a = some o → h.get? a = some o)
    R.1 (Nat.ne_of_gt (Nat.lt_succ_self _)) (Nat.ne_of_gt (Nat.lt_add_of_pos_right (by decide))) (Nat.ne_of_lt lsz) (fun h => by obtain ⟨o, e⟩ := baseL_of h; have := S₁.base _ _ e; exact absurd (Heap.lt_size this) (Nat.lt_irrefl _))
    (fun h h' hB hk b o e => hk b (baseL_mem e) o (hB b o e)) (fun i v s' Q' E' hv hB hQ => ?_)
  · have hsz : (mapHeap s₁.heap (.ref a) l).objs.size = s₁.heap.objs.size + 3 := by
      unfold mapHeap; rw [Heap.size_push, Heap.size_push, Heap.size_push]
    refine call_tuple_map (s := { s₁ with heap := mapHeap s₁.heap (.ref a) l }) W.toS (fun i s' st => ⟨_, st.1.1, rfl⟩) ⟨⟨mapHeap_at _ _ _, mapHeap_its _ _ _⟩, ⟨⟨_, mapHeap_it _ _ _, rfl, rfl⟩, ⟨_, mapHeap_old _ _ e1', rfl, n, rfl⟩⟩, fun b o e => mapHeap_old _ _ (S₁.base b o e)⟩ (fun b hb => ?_) (List.mem_cons_self ..) (fun s' acc hm hacc => ?_) (by omega)
    · show b < (mapHeap s₁.heap (.ref a) l).objs.size
      rw [hsz]
      simp only [List.mem_cons] at hb
      rcases hb with rfl | rfl | rfl | rfl | hb
      · exact Nat.lt_succ_self _
      · exact Nat.lt_succ_of_lt (Nat.lt_succ_self _)
      · exact Nat.lt_succ_of_lt (Nat.lt_succ_of_lt (Nat.lt_succ_self _))
      · exact Nat.lt_succ_of_lt (Nat.lt_succ_of_lt (Nat.lt_succ_of_lt lsz))
      · obtain ⟨o, e⟩ := baseL_of hb
        exact Nat.lt_succ_of_lt (Nat.lt_succ_of_lt (Nat.lt_succ_of_lt (Heap.lt_size (S₁.base b o e))))
    · have K : Kp s₁ s' := by
        have e := Moved.eq_with hm
        refine ⟨⟨s'.heap, s'.toks, by rw [e]⟩, fun b o eb => hm.heap b o (fun hmem => ?_) (mapHeap_old _ _ eb)⟩
        exact absurd (Heap.lt_size eb) (by rw [List.mem_singleton.mp hmem]; exact Nat.lt_irrefl _)
      have S' := S₁.keeps K
      have rr : Rvs X s'.heap acc.toList (ks.map .str) := by
        have key : ∀ (l : List Value) (ks : List Str), l.length = ks.length → (∀ (i : Nat) (v : Value), l[i]? = some v → ∃ z t, ks[i]? = some z ∧ v = .str z t) → Rvs X s'.heap l (ks.map .str) := by
          intro l
          induction l with
          | nil => intro ks e _; cases ks with
            | nil => exact .nil
            | cons => cases e
          | cons v l ih =>
            intro ks e hx
            cases ks with
            | nil => cases e
            | cons z ks =>
              obtain ⟨z', t, e1, rfl⟩ := hx 0 v rfl
              simp at e1; subst e1
              exact .cons (.str _ _) (ih ks (by simpa using e) fun i v hv => by simpa using hx (i + 1) v (by simpa using hv))
        refine key _ _ ?_ fun i v hv => hacc.2 i v (by simpa using hv)
        have := hacc.1
        simp [this, hlen]
      have z := Rv.newTuple S'.dom rr
      have e3 : acc.toList.toArray = acc := by simp
      rw [e3] at z
      exact q _ _ ((K₁.trans K).trans (Kp.push s' _)) z
  · obtain ⟨u, hu, ru⟩ : ∃ u, ks[i]? = some u ∧ Rv X s₁.heap v (.str u) := by
      have : ∀ (l : List Value) (ks : List Str) (i : Nat) (v : Value), Rvs X s₁.heap l (ks.map .str) → l[i]? = some v → ∃ u, ks[i]? = some u ∧ Rv X s₁.heap v (.str u) := by
        intro l
        induction l with
        | nil => intro ks i v _ e; simp at e
        | cons y l ih =>
          intro ks i v r e
          cases ks with
          | nil => cases r
          | cons z ks =>
            cases r with
            | cons ra rb =>
              cases i with
              | zero => simp at e; subst e; exact ⟨z, rfl, ra⟩
              | succ i => simpa using ih ks i v rb (by simpa using e)
      exact this _ _ _ _ r (by simpa using hv)
    cases ru with
    | str _ t =>
      refine hc A.in1.in1.in1.in1 (fun _ => False) s' [.str u t] [.str u] (.str u) _ _ R' hB (fun _ h => h.elim) (fun _ h => h.elim) (.cons (.str _ _) .nil) (hg u) fun v' s'' K'' r'' => ?_
      cases r'' with
      | str _ t' =>
        obtain ⟨⟨h', tk, rfl⟩, kk⟩ := K''
        exact hQ _ h' tk ⟨u, t', hu, rfl⟩ kk
end
end Mine


namespace Mine
/-! `sorted` of four lists `[leaf, text]` -/
section
variable {prog : Program} {w : World} {A : Around} {E : Value → Shared → Prop} {s : Shared}
theorem for_range_eq {β : Type} {σ : Type} {a b : Nat} {c : β} {f : Nat → β → StateT σ Sem (ForInStep β)} : (forIn [a:b] c f : StateT σ Sem β) = forIn (List.range' a (b - a) 1) c f := by
  rw [Std.Legacy.Range.forIn_eq_forIn_range']
  have hsz : ([a:b] : Std.Legacy.Range).size = b - a := by simp [Std.Legacy.Range.size]
  show forIn (List.range' a ([a:b] : Std.Legacy.Range).size 1) c f = _
  rw [hsz]
theorem wpS_for_cons {M : Model} {σ : Type} {β : Type} {x : Nat} {rest : List Nat} {c : β} {f : Nat → β → StateT σ Sem (ForInStep β)} {Q : β → σ → Prop} {st : σ}
    (h : wpS M A E s (f x c) (fun r st' => match r with | .done c' => Q c' st' | .yield c' => wpS M A E s (forIn rest c' f) Q st') st) : wpS M A E s (forIn (x :: rest) c f) Q st := by
  rw [List.forIn_cons]
  refine wpS_bind (wpS_mono h fun r st' h' => ?_)
  cases r with
  | done b' => exact wpS_pure h'
  | yield b' => exact h'
theorem wpS_for_nil {M : Model} {σ : Type} {β : Type} {c : β} {f : Nat → β → StateT σ Sem (ForInStep β)} {Q : β → σ → Prop} {st : σ} (h : Q c st) : wpS M A E s (forIn ([] : List Nat) c f) Q st := by
  rw [List.forIn_nil]; exact wpS_pure h
/-- the value's key -/
noncomputable def KeyIs (M : Model) (A : Around) (E : Value → Shared → Prop) (s : Shared) (key : Value → Nat → Prop) : Prop := ∀ (x y : Value) (a b : Nat) (Q : Bool → Shared → Prop), key x a → key y b → a ≠ b → Q (decide (a < b)) s → wpAny M A (oneLt' true x y) Q E s
theorem ltAt4 {M : Model} {key : Value → Nat → Prop} (H : ∀ E, KeyIs M A E s key) {st : SortSt} {i j : Nat} {x y p q : Value} {a b : Nat} {Q : Option Bool → SortSt → Prop} (hk : kindOf st = oneType') (hi : (arrOf st)[i]? = some (x, p)) (hj : (arrOf st)[j]? = some (y, q))
    (ha : key x a) (hb : key y b) (hne : a ≠ b) (h : Q (some (decide (a < b))) st) : wpS M A E s (ltAt' i j) Q st := by
  rw [ltAt'_eq]
  refine wpS_bind (wpS_get ?_)
  show wpS _ _ _ _ (do let x ← elem' (arrOf st) i; let y ← elem' (arrOf st) j; lt' x y) Q st
  rw [elem'_eq, elem'_eq, hi, hj]
  refine wpS_bind (wpS_pure (wpS_bind (wpS_pure ?_)))
  rw [lt'_eq]
  refine wpS_bind (wpS_get ?_)
  rw [hk, keyLt'_oneType]
  refine wpS_bind (wpS_lift (wpAny_attempt (H _ x y a b _ ha hb hne ⟨rfl, ?_⟩)))
  exact wpS_pure h
theorem sortRuns4 {M : Model} {st0 : SortSt} {Q : Unit → SortSt → Prop} (F : SortSt → Prop) (hsz : (arrOf st0).size = 4)
    (hrun : wpS M A E s (countRun' 0 4) (fun r st2 => ∃ m, r = some m ∧ (if m < 4 then wpS M A E s (binarySort' 0 4 m) (fun b st3 => b = true ∧ pendingOf st3 = #[] ∧ F st3) st2 else (m = 4 ∧ pendingOf st2 = #[] ∧ F st2))) st0)
    (h : ∀ st', F st' → Q () (setPending st' #[(0, 4, 0)])) : wpS M A E s sortRuns' Q st0 := by
  rw [sortRuns'_eq]
  refine wpS_bind (wpS_get ?_)
  dsimp only
  rw [hsz, show minRun' 4 4 0 = 4 from rfl]
  refine wpS_bind ?_
  rw [for_range_eq]
  show wpS _ _ _ _ (forIn (0 :: 1 :: List.range' 2 2 1) _ _) _ _
  refine wpS_for_cons ?_
  dsimp only
  rw [if_neg (by decide)]
  refine wpS_bind (wpS_mono hrun ?_)
  rintro r st2 ⟨m, rfl, hm⟩
  dsimp only
  by_cases h4 : m < 4
  · rw [if_pos h4] at hm ⊢
    refine wpS_bind (wpS_lift (wpAny_rule ⟨rfl, ?_⟩))
    refine wpS_bind (wpS_mono hm ?_)
    rintro b st3 ⟨rfl, hp, hF⟩
    simp only [Bool.not_true, Bool.false_eq_true, if_false]
    refine wpS_bind (wpS_get ?_)
    rw [show (pendingOf st3).back? = none from by rw [hp]; rfl]
    dsimp only
    refine wpS_bind (wpS_modify (wpS_pure ?_))
    dsimp only
    refine wpS_for_cons ?_
    dsimp only
    rw [if_pos (by decide)]
    refine wpS_pure ?_
    dsimp only
    have hp' : pendingOf (setPending st3 ((pendingOf st3).push (0, 4, 0))) = #[(0, 4, 0)] := by
      show (pendingOf st3).push _ = _; rw [hp]; rfl
    have hq : Q () (setPending st3 ((pendingOf st3).push (0, 4, 0))) := by rw [hp]; exact h st3 hF
    refine wpS_bind ?_
    rw [for_range_eq]
    show wpS _ _ _ _ (forIn (0 :: List.range' 1 3 1) _ _) _ (setPending st3 ((pendingOf st3).push (0, 4, 0)))
    refine wpS_for_cons ?_
    refine wpS_bind (wpS_get ?_)
    rw [if_pos (by rw [hp']; exact Nat.le_refl 1)]
    exact wpS_pure (wpS_pure hq)
  · rw [if_neg h4] at hm ⊢
    obtain ⟨rfl, hp, hF⟩ := hm
    refine wpS_bind (wpS_get ?_)
    rw [show (pendingOf st2).back? = none from by rw [hp]; rfl]
    dsimp only
    refine wpS_bind (wpS_modify (wpS_pure ?_))
    dsimp only
    refine wpS_for_cons ?_
    dsimp only
    rw [if_pos (by decide)]
    refine wpS_pure ?_
    dsimp only
    have hp' : pendingOf (setPending st2 ((pendingOf st2).push (0, 4, 0))) = #[(0, 4, 0)] := by
      show (pendingOf st2).push _ = _; rw [hp]; rfl
    have hq : Q () (setPending st2 ((pendingOf st2).push (0, 4, 0))) := by rw [hp]; exact h st2 hF
    refine wpS_bind ?_
    rw [for_range_eq]
    show wpS _ _ _ _ (forIn (0 :: List.range' 1 3 1) _ _) _ (setPending st2 ((pendingOf st2).push (0, 4, 0)))
    refine wpS_for_cons ?_
    refine wpS_bind (wpS_get ?_)
    rw [if_pos (by rw [hp']; exact Nat.le_refl 1)]
    exact wpS_pure (wpS_pure hq)
end
end Mine


namespace Mine
section
variable {A : Around} {E : Value → Shared → Prop} {s : Shared}
theorem wpS_ifT {M : Model} {σ α : Type} {p : Prop} [Decidable p] {a b : StateT σ Sem α} {Q : α → σ → Prop} {st : σ} (hp : decide p = true) (h : wpS M A E s a Q st) : wpS M A E s (if p then a else b) Q st := by
  rw [if_pos (of_decide_eq_true hp)]; exact h
theorem wpS_ifF {M : Model} {σ α : Type} {p : Prop} [Decidable p] {a b : StateT σ Sem α} {Q : α → σ → Prop} {st : σ} (hp : decide p = false) (h : wpS M A E s b Q st) : wpS M A E s (if p then a else b) Q st := by
  rw [if_neg (of_decide_eq_false hp)]; exact h
theorem ite_T {p : Prop} [Decidable p] {a b : Prop} (hp : decide p = true) (h : a) : (if p then a else b) := by rw [if_pos (of_decide_eq_true hp)]; exact h
theorem ite_F {p : Prop} [Decidable p] {a b : Prop} (hp : decide p = false) (h : b) : (if p then a else b) := by rw [if_neg (of_decide_eq_false hp)]; exact h
theorem wpS_rangeN {M : Model} {σ β : Type} {a b : Nat} (n : Nat) (hn : b - a = n) {c : β} {f : Nat → β → StateT σ Sem (ForInStep β)} {Q : β → σ → Prop} {st : σ} (h : wpS M A E s (forIn (List.range' a n 1) c f) Q st) : wpS M A E s (forIn [a:b] c f) Q st := by
  rw [for_range_eq, hn]; exact h
theorem wpS_rangeS {M : Model} {σ β : Type} {a n : Nat} {c : β} {f : Nat → β → StateT σ Sem (ForInStep β)} {Q : β → σ → Prop} {st : σ}
    (h : wpS M A E s (f a c) (fun r st' => match r with | .done c' => Q c' st' | .yield c' => wpS M A E s (forIn (List.range' (a + 1) n 1) c' f) Q st') st) : wpS M A E s (forIn (List.range' a (n + 1) 1) c f) Q st := wpS_for_cons h
theorem wpS_rangeZ {M : Model} {σ β : Type} {a : Nat} {c : β} {f : Nat → β → StateT σ Sem (ForInStep β)} {Q : β → σ → Prop} {st : σ} (h : Q c st) : wpS M A E s (forIn (List.range' a 0 1) c f) Q st := wpS_for_nil h

theorem wpS_rev {M : Model} {i j : Nat} {Q : Unit → SortSt → Prop} {st : SortSt} (h : Q () (setArr st (mirror (arrOf st) i j ((j - i) / 2)))) : wpS M A E s (reverseSlice' i j) Q st := by
  rw [reverseSlice'_eq]; exact wpS_modify h
theorem wpS_moveDown {M : Model} {a b : Nat} {Q : PUnit → SortSt → Prop} {st : SortSt} (h : Q ⟨⟩ (setArr st (bubble (arrOf st) a (a - b)))) : wpS M A E s (moveDown' a b) Q st := by
  rw [moveDown'_eq]; exact wpS_modify h
noncomputable def ins4 {α : Type} (k : Nat) (v : α) : List (Nat × α) → List (Nat × α)
  | [] => [(k, v)]
  | (j, u) :: r => if k < j then (k, v) :: (j, u) :: r else (j, u) :: ins4 k v r
noncomputable def srt4 {α : Type} : List (Nat × α) → List (Nat × α)
  | [] => []
  | (k, v) :: r => ins4 k v (srt4 r)
noncomputable def perms4 : List (List Nat) := [[0, 1, 2, 3], [0, 1, 3, 2], [0, 2, 1, 3], [0, 2, 3, 1], [0, 3, 1, 2], [0, 3, 2, 1], [2, 0, 3, 1], [1, 0, 3, 2], [1, 0, 2, 3], [2, 3, 0, 1], [1, 3, 0, 2], [1, 2, 0, 3]]
noncomputable def Fin4 (l : List (Nat × Value)) (st : SortSt) : Prop := arrOf st = ((srt4 l).map fun p => (p.2, p.2)).toArray ∧ failedOf st = none
noncomputable def Res4 (M : Model) (A : Around) (E : Value → Shared → Prop) (s : Shared) (F : SortSt → Prop) (r : Option Nat) (st2 : SortSt) : Prop := ∃ m, r = some m ∧ (if m < 4 then wpS M A E s (binarySort' 0 4 m) (fun b st3 => b = true ∧ pendingOf st3 = #[] ∧ F st3) st2 else (m = 4 ∧ pendingOf st2 = #[] ∧ F st2))
theorem res_eq {M : Model} {F : SortSt → Prop} {r : Option Nat} {st2 : SortSt} (m : Nat) (hr : r = some m) (h : if m < 4 then wpS M A E s (binarySort' 0 4 m) (fun b st3 => b = true ∧ pendingOf st3 = #[] ∧ F st3) st2 else (m = 4 ∧ pendingOf st2 = #[] ∧ F st2)) : Res4 M A E s F r st2 := ⟨m, hr, h⟩
theorem run4 {M : Model} {key : Value → Nat → Prop} (H : ∀ E, KeyIs M A E s key) {v0 v1 v2 v3 : Value} {k0 k1 k2 k3 : Nat} (hp : [k0, k1, k2, k3] ∈ perms4) (h0 : key v0 k0) (h1 : key v1 k1) (h2 : key v2 k2) (h3 : key v3 k3) :
    wpS M A E s (countRun' 0 4) (Res4 M A E s (Fin4 [(k0, v0), (k1, v1), (k2, v2), (k3, v3)])) (SortSt.mk' oneType' #[(v0, v0), (v1, v1), (v2, v2), (v3, v3)] #[] 7 none) := by
  rw [countRun0_eq]
  unfold descPart tail3 descLoop ascLoop
  simp only [perms4, List.mem_cons, List.cons.injEq, and_true, List.not_mem_nil, or_false] at hp
  rcases hp with ⟨rfl, rfl, rfl, rfl⟩ | ⟨rfl, rfl, rfl, rfl⟩ | ⟨rfl, rfl, rfl, rfl⟩ | ⟨rfl, rfl, rfl, rfl⟩ | ⟨rfl, rfl, rfl, rfl⟩ | ⟨rfl, rfl, rfl, rfl⟩ | ⟨rfl, rfl, rfl, rfl⟩ | ⟨rfl, rfl, rfl, rfl⟩ | ⟨rfl, rfl, rfl, rfl⟩ | ⟨rfl, rfl, rfl, rfl⟩ | ⟨rfl, rfl, rfl, rfl⟩ | ⟨rfl, rfl, rfl, rfl⟩
  all_goals repeat (first
    | with_reducible refine wpS_bind ?_
    | with_reducible refine wpS_pure ?_
    | (with_reducible refine wpS_rangeN 0 ?_ ?_); · rfl
    | (with_reducible refine wpS_rangeN 1 ?_ ?_); · rfl
    | (with_reducible refine wpS_rangeN 2 ?_ ?_); · rfl
    | (with_reducible refine wpS_rangeN 3 ?_ ?_); · rfl
    | (with_reducible refine wpS_rangeN 4 ?_ ?_); · rfl
    | with_reducible refine wpS_rangeS ?_
    | with_reducible refine wpS_rangeZ ?_
    | (with_reducible refine wpS_rev ?_)
    | with_reducible refine wpS_moveDown ?_
    | with_reducible refine wpS_lift (wpAny_rule ⟨rfl, ?_⟩)
    | (with_reducible show wpS _ _ _ _ (ltAt' _ _) _ _); refine ltAt4 H (by rfl) (by rfl) (by rfl) (by assumption) (by assumption) (by decide) ?_
    | (with_reducible refine wpS_ifT ?_ ?_); · rfl
    | (with_reducible refine wpS_ifF ?_ ?_); · rfl
    | (with_reducible refine res_eq _ rfl ?_)
    | (with_reducible refine ite_T ?_ ?_); · rfl
    | (with_reducible refine ite_F ?_ ?_); · rfl
    | rw [binarySort'_eq]

    | dsimp only)
  all_goals exact ⟨rfl, rfl, And.intro rfl rfl⟩
end
end Mine


namespace Mine
section
variable {prog : Program} {w : World} {A : Around} {E : Value → Shared → Prop} {s : Shared}
/-- a list that opens with a small number -/
noncomputable def HeadIs (h : Heap) (x : Value) (k : Nat) : Prop := ∃ a vs n ds, x = .ref a ∧ h.get? a = some { cls := .type "list", data := .seq vs n } ∧ Rvs (fun _ => False) h vs.toList (.int (k : Int) :: ds)
theorem HeadIs.keeps {h h' : Heap} {x : Value} {k : Nat} (r : HeadIs h x k) (q : ∀ a o, h.get? a = some o → h'.get? a = some o) : HeadIs h' x k :=
  let ⟨a, vs, n, ds, e, g, rr⟩ := r; ⟨a, vs, n, ds, e, q _ _ g, rr.keeps q⟩
theorem lex_heads {a b : Nat} (hne : a ≠ b) (da db : List PyData) : lexLt (.int (a : Int) :: da) (.int (b : Int) :: db) = some (decide (a < b)) := by
  have e : ((a : Int) == (b : Int)) = false := by simpa using fun h => hne (by omega)
  simp [lexLt, atomEq, atomLt, e]
theorem keyIs_lists (hu : A.units < cLine) : ∀ E, KeyIs (model prog w) A E s (HeadIs s.heap) := by
  intro E x y a b Q hx hy hne q
  obtain ⟨p, vs, n, ds, rfl, gp, rp⟩ := hx
  obtain ⟨r, us, m, es, rfl, gr, rr⟩ := hy
  rw [oneLt'_eq]
  simp only [if_true]
  refine wpAny_bind (wpAny_cRoomFor hu ?_)
  refine wpAny_bind (wpAny_callSpecialIfBound?_slot ⟨_, gp, rfl⟩ PySem.F.slot_list_lt (call_meets PySem.F.slot_list_lt ⟨_, gp, rfl⟩ PySem.F.entry_list_lt (PySem.F.args_list_lt_2 _ _) (list_lt (fun _ => False) p r vs us n m _ _ _ (lex_heads hne ds es)) ⟨gp, gr, rp, rr, ?_⟩))
  exact wpAny_truthy_bool q
theorem first_list {x : Value} (hT : s.TypeIs x "list") {Q : Option Value → Shared → Prop} (q : Q none s) : wpAny (model prog w) A (firstOfTuple' x) Q E s := by
  show wpAny _ _ (typeOf x >>= _) _ _ s
  refine wpAny_bind (wpAny_typeOf hT ?_)
  refine then_way (by decide) (wpAny_pure q)
theorem keyKind_lists {v0 v1 v2 v3 : Value} (h0 : s.TypeIs v0 "list") (h1 : s.TypeIs v1 "list") (h2 : s.TypeIs v2 "list") (h3 : s.TypeIs v3 "list") {Q : SortKind → Shared → Prop} (q : Q oneType' s) : wpAny (model prog w) A (keyKind' #[v0, v1, v2, v3]) Q E s := by
  rw [keyKind'_eq, List.mapM_toArray]
  simp only [List.mapM_cons, List.mapM_nil, map_eq_pure_bind, bind_assoc, pure_bind]
  refine wpAny_bind (first_list h0 (wpAny_bind (first_list h1 (wpAny_bind (first_list h2 (wpAny_bind (first_list h3 ?_)))))))
  refine else_way (by simp) ?_
  refine else_way (by simp) ?_
  rw [oneTypeOnly'_eq, List.mapM_toArray]
  simp only [List.mapM_cons, List.mapM_nil, map_eq_pure_bind, bind_assoc, pure_bind]
  refine wpAny_bind (wpAny_typeOf h0 (wpAny_bind (wpAny_typeOf h1 (wpAny_bind (wpAny_typeOf h2 (wpAny_bind (wpAny_typeOf h3 ?_)))))))
  refine wpAny_pure ?_
  simpa using q
theorem seq_upd {h : Heap} {a : Addr} {xs : Array Value} {n : Nat} (ho : h.get? a = some (seqObj "list" xs n)) (g : Array Value → Array Value) : ∃ m, (h.update a (Obj.mapSeq g)).get? a = some (seqObj "list" (g xs) m) := ⟨_, get?_update_seq ho g⟩
theorem list_sort4 {a : Addr} {v0 v1 v2 v3 : Value} {k0 k1 k2 k3 : Nat} {n : Nat} {P : Fin → Shared → Prop} (hu : A.units < cLine) (hp : [k0, k1, k2, k3] ∈ perms4) (ho : s.heap.get? a = some (seqObj "list" #[v0, v1, v2, v3] n))
    (hk : ∀ h' : Heap, (∀ b o, b ≠ a → s.heap.get? b = some o → h'.get? b = some o) → HeadIs h' v0 k0 ∧ HeadIs h' v1 k1 ∧ HeadIs h' v2 k2 ∧ HeadIs h' v3 k3)
    (h : ∀ h' m, (∀ b o, b ≠ a → s.heap.get? b = some o → h'.get? b = some o) → h'.get? a = some (seqObj "list" ((srt4 [(k0, v0), (k1, v1), (k2, v2), (k3, v3)]).map (·.2)).toArray m) → P (.done (.ret .none)) { s with heap := h' }) :
    wpAny (model prog w) A (Builtin.«list.sort» ⟨[.ref a], []⟩) P E s := by
  rw [list_sort_plain]
  have ha : a < s.heap.objs.size := Heap.lt_size ho
  refine wpAny_bind (listItems_at ho rfl ?_)
  refine wpAny_bind (listUpdate_at ho rfl ?_)
  obtain ⟨e1, ho1⟩ := seq_upd ho fun _ => #[]
  refine wpAny_bind (seqEpoch_at ho1 rfl ?_)
  refine wpAny_bind (wpAny_newTuple ?_)
  refine wpAny_bind (wpAny_newList ?_)
  refine wpAny_holding ?_
  obtain ⟨h6, e6⟩ : ∃ h6, h6 = ((s.heap.update a (Obj.mapSeq fun _ => #[])).push { cls := .type "tuple", data := .seq #[v0, v1, v2, v3].toList.toArray }).push { cls := .type "list", data := .seq ([] : List Value).toArray } := ⟨_, rfl⟩
  have k6 : ∀ b o, (s.heap.update a (Obj.mapSeq fun _ => #[])).get? b = some o → h6.get? b = some o := fun b o e => by rw [e6]; exact Heap.get?_push_of_some _ (Heap.get?_push_of_some _ e)
  have ho6 := k6 _ _ ho1
  have old6 : ∀ b o, b ≠ a → s.heap.get? b = some o → h6.get? b = some o := fun b o hb e => k6 b o ((Heap.get?_update_other _ _ (Ne.symm hb)).trans e)
  show wpAny _ _ _ _ _ { s with heap := ((s.heap.update a (Obj.mapSeq fun _ => #[])).push { cls := .type "tuple", data := .seq #[v0, v1, v2, v3].toList.toArray }).push { cls := .type "list", data := .seq ([] : List Value).toArray } }
  rw [← e6]
  obtain ⟨q0, q1, q2, q3⟩ := hk h6 old6
  have ty : ∀ {v : Value} {k : Nat}, HeadIs h6 v k → Shared.TypeIs { s with heap := h6 } v "list" := fun r => by obtain ⟨b, vs, m, ds, rfl, g, _⟩ := r; exact ⟨_, g, rfl⟩
  have h2 : ¬ #[v0, v1, v2, v3].size < 2 := by simp
  have hz : #[v0, v1, v2, v3].zip #[v0, v1, v2, v3] = #[(v0, v0), (v1, v1), (v2, v2), (v3, v3)] := by simp
  rw [if_neg h2, if_neg h2, hz]
  refine wpAny_bind (keyKind_lists (ty q0) (ty q1) (ty q2) (ty q3) ?_)
  refine wpAny_bind (wpAny_mono (Q := fun r s' => s' = { s with heap := h6 } ∧ ∃ st', r.2 = setPending st' #[(0, 4, 0)] ∧ Fin4 [(k0, v0), (k1, v1), (k2, v2), (k3, v3)] st') ?_ ?_ fun _ _ e => e)
  · refine wpAny_mono (sortRuns4 (M := model prog w) (A := A) (E := E) (s := { s with heap := h6 }) (st0 := SortSt.mk' oneType' #[(v0, v0), (v1, v1), (v2, v2), (v3, v3)] #[] 7 none) (Q := fun _ st2 => ∃ st', st2 = setPending st' #[(0, 4, 0)] ∧ Fin4 [(k0, v0), (k1, v1), (k2, v2), (k3, v3)] st') (Fin4 [(k0, v0), (k1, v1), (k2, v2), (k3, v3)]) rfl
      (run4 (keyIs_lists (s := { s with heap := h6 }) hu) hp q0 q1 q2 q3) fun st' hF => ⟨st', rfl, hF⟩) (fun r s' hr => hr) fun _ _ e => e
  · rintro ⟨⟨⟩, st2⟩ s' ⟨rfl, st', rfl, hF⟩
    dsimp only
    refine wpAny_bind (seqEpoch_at ho6 rfl ?_)
    have hout : (arrOf st').map (·.2) = ((srt4 [(k0, v0), (k1, v1), (k2, v2), (k3, v3)]).map (·.2)).toArray := by
      rw [hF.1]; simp
    have hlen : (srt4 [(k0, v0), (k1, v1), (k2, v2), (k3, v3)]).length = 4 := by
      have il : ∀ (k : Nat) (v : Value) (l : List (Nat × Value)), (ins4 k v l).length = l.length + 1 := by
        intro k v l
        induction l with
        | nil => rfl
        | cons p r ih => obtain ⟨j, u⟩ := p; unfold ins4; split <;> simp [ih]
      simp [srt4, il]
    show wpAny _ _ (Builtin.List.listUpdate (.ref a) (fun _ => (arrOf st').map (·.2)) >>= _) _ _ _
    rw [hout]
    refine wpAny_bind (listUpdate_at ho6 rfl ?_ (hsz2 := by simp [hlen, sizeLine_eq]))
    rw [show failedOf (setPending st' #[(0, 4, 0)]) = none from hF.2]
    simp only [bne_self_eq_false, Bool.false_eq_true, if_false]
    obtain ⟨m, hm⟩ := seq_upd ho6 fun _ => ((srt4 [(k0, v0), (k1, v1), (k2, v2), (k3, v3)]).map (·.2)).toArray
    exact wpAny_pure (h _ m (fun b o hb e => (Heap.get?_update_other _ _ (Ne.symm hb)).trans (old6 b o hb e)) hm)
theorem call_sorted4 {l : Addr} {v0 v1 v2 v3 : Value} {k0 k1 k2 k3 : Nat} {Q : Value → Shared → Prop} (hu : A.units + 8 < cLine) (hp : [k0, k1, k2, k3] ∈ perms4) (hl : s.heap.IsList l [v0, v1, v2, v3].toArray)
    (h0 : HeadIs s.heap v0 k0) (h1 : HeadIs s.heap v1 k1) (h2 : HeadIs s.heap v2 k2) (h3 : HeadIs s.heap v3 k3)
    (q : ∀ (a : Addr) (h' : Heap) (m : Nat), (∀ b o, s.heap.get? b = some o → h'.get? b = some o) → s.heap.get? a = none → h'.get? a = some (seqObj "list" ((srt4 [(k0, v0), (k1, v1), (k2, v2), (k3, v3)]).map (·.2)).toArray m) → Q (.ref a) { s with heap := h' }) :
    wpAny (model prog w) A (call (.builtin "sorted") [.ref l]) Q E s := by
  refine Calls.call_function_entry kind_sorted plain_sorted entry_sorted (args_sorted1 _) ?_
  unfold Builtin.«sorted»
  refine wpAny_bind (m := checkCount "sorted" 1 1 _) (wpAny_pure ?_)
  refine wpAny_bind (collect_list hl ?_)
  refine wpAny_bind (wpAny_newList ?_)
  obtain ⟨h7, e7⟩ : ∃ h7, h7 = (s.heap.push (seqObj "list" #[] 0)).update s.heap.objs.size (Obj.mapSeq (· ++ [v0, v1, v2, v3].toArray)) := ⟨_, rfl⟩
  have old7 : ∀ b o, s.heap.get? b = some o → h7.get? b = some o := fun b o e => by
    rw [e7]; exact (Heap.get?_update_other _ _ (Nat.ne_of_gt (Heap.lt_size e))).trans (Heap.get?_push_of_some _ e)
  show wpAny _ _ _ _ _ { s with heap := ((s.heap.push (seqObj "list" #[] 0)).update s.heap.objs.size (Obj.mapSeq (· ++ [v0, v1, v2, v3].toArray))).push (seqObj "list" [v0, v1, v2, v3].toArray 0) }
  rw [← e7]
  have hoL : (h7.push (seqObj "list" [v0, v1, v2, v3].toArray 0)).get? h7.objs.size = some (seqObj "list" [v0, v1, v2, v3].toArray 0) := Heap.get?_push_size _ rfl
  have fresh : s.heap.get? h7.objs.size = none := by
    cases e : s.heap.get? h7.objs.size with
    | none => rfl
    | some o => exact absurd (Heap.lt_size (old7 _ _ e)) (Nat.lt_irrefl _)
  have old8 : ∀ b o, s.heap.get? b = some o → b ≠ h7.objs.size ∧ (h7.push (seqObj "list" [v0, v1, v2, v3].toArray 0)).get? b = some o := fun b o e => ⟨(fun q => absurd (q ▸ e) (by rw [fresh]; simp)), Heap.get?_push_of_some _ (old7 b o e)⟩
  refine wpAny_bind (wpAny_holding (wpAny_call_entry slot_list_sort ⟨_, hoL, rfl⟩ entry_list_sort (list_sort4 (s := { s with heap := h7.push (seqObj "list" [v0, v1, v2, v3].toArray 0) }) (k0 := k0) (k1 := k1) (k2 := k2) (k3 := k3) ?_ hp hoL (fun h' hk => ?_) fun h' m hk hm => ⟨_, rfl, ?_⟩) (args_list_sort _)))
  · show A.units + 1 + 1 < cLine; omega
  · have k' : ∀ b o, s.heap.get? b = some o → h'.get? b = some o := fun b o e => hk b o (old8 b o e).1 (old8 b o e).2
    exact ⟨h0.keeps k', h1.keeps k', h2.keeps k', h3.keeps k'⟩
  · exact wpAny_pure ⟨_, rfl, q _ h' m (fun b o e => hk b o (old8 b o e).1 (old8 b o e).2) fresh hm⟩
end

noncomputable def headK : PyData → Option Nat
  | .list (.int k :: _) => if 0 ≤ k ∧ k ≤ 3 then some k.toNat else none
  | _ => none
noncomputable def sortL4 (a b c d : PyData) : Option PyData := match headK a, headK b, headK c, headK d with
  | some i, some j, some k, some l => if [i, j, k, l] ∈ perms4 then some (.list ((srt4 [(i, a), (j, b), (k, c), (l, d)]).map (·.2))) else none
  | _, _, _, _ => none
noncomputable def sortLD (f : Rho → Option PyData) (ρ : Rho) : Option PyData := match f ρ with
  | some (.list [a, b, c, d]) => sortL4 a b c d
  | _ => none
inductive KL (X : Addr → Prop) (h : Heap) : List (Nat × Value) → List (Nat × PyData) → Prop
  | nil : KL X h [] []
  | cons {k : Nat} {v : Value} {d : PyData} {l : List (Nat × Value)} {m : List (Nat × PyData)} : Rv X h v d → KL X h l m → KL X h ((k, v) :: l) ((k, d) :: m)
theorem KL.ins {X : Addr → Prop} {h : Heap} {k : Nat} {v : Value} {d : PyData} (r : Rv X h v d) : ∀ {l : List (Nat × Value)} {m : List (Nat × PyData)}, KL X h l m → KL X h (ins4 k v l) (ins4 k d m)
  | _, _, .nil => .cons r .nil
  | _, _, .cons (k := j) a b => by
    unfold ins4
    split
    · exact .cons r (.cons a b)
    · exact .cons a (KL.ins r b)
theorem KL.srt {X : Addr → Prop} {h : Heap} : ∀ {l : List (Nat × Value)} {m : List (Nat × PyData)}, KL X h l m → KL X h (srt4 l) (srt4 m)
  | _, _, .nil => .nil
  | _, _, .cons a b => KL.ins a (KL.srt b)
theorem KL.rvs {X : Addr → Prop} {h : Heap} : ∀ {l : List (Nat × Value)} {m : List (Nat × PyData)}, KL X h l m → Rvs X h (l.map (·.2)) (m.map (·.2))
  | _, _, .nil => .nil
  | _, _, .cons a b => .cons a (KL.rvs b)
theorem headK_is {X : Addr → Prop} {h : Heap} {v : Value} {d : PyData} {k : Nat} (r : Rv X h v d) (e : headK d = some k) : HeadIs h v k := by
  unfold headK at e
  split at e
  · rename_i i ds
    split at e
    · rename_i hi
      cases e
      cases r with
      | list x g c dt r =>
        refine ⟨_, _, _, ds, rfl, by rw [g, c], ?_⟩
        have : ((i.toNat : Nat) : Int) = i := by omega
        rw [this]
        exact r.move fun a o _ e _ => ⟨fun z => z, e⟩
    · cases e
  · cases e
section
variable {prog : Program} {w : World} {hb : Heap} {k : Nat} {Γ : Lay} {sc : Scope} {mg mb : Str → Option Value}
theorem R_sortedL {f : Rho → Option PyData} {e : Expr} {p pos : Pos} (G : GlobOk mg mb hb) (hk : isGlob sc "sorted" = true) (hn : mg "sorted" = none) (hv : mb "sorted" = some (.builtin "sorted")) (h : SimE prog w hb k Γ sc f e) (he : ∀ env, starEach [e] env = [(false, eval e env)]) :
    SimE prog w hb k Γ sc (sortLD f) (.Call (.Name "sorted" p) [e] [] pos) := by
  intro env O A Y X ρ s d Q E R S hf q
  unfold sortLD at hf
  split at hf
  case h_2 => cases hf
  rename_i a b c d' ef
  unfold sortL4 at hf
  split at hf
  case h_2 => cases hf
  rename_i i j k l e0 e1 e2 e3
  split at hf
  case isFalse => cases hf
  rename_i hp
  cases hf
  refine Call_ (load_blt G O S.base hk hn hv ?_) rfl
  rw [he env]
  refine callWith_builtin1 (h env O A Y X ρ s _ _ E R S ef fun v s₁ K₁ r₁ => ?_)
  obtain ⟨la, o, vs, n, rfl, xa, e4, c4, dt, r⟩ := r₁.list_inv
  obtain ⟨vl⟩ := vs
  have S₁ := S.keeps K₁
  cases r with
  | cons r0 r =>
    cases r with
    | cons r1 r =>
      cases r with
      | cons r2 r =>
        cases r with
        | cons r3 r =>
          cases r
          refine call_sorted4 (by have := R.2.2; omega) hp ⟨o, e4, c4.cls, n, dt⟩ (headK_is r0 e0) (headK_is r1 e1) (headK_is r2 e2) (headK_is r3 e3) fun a' h' m hk' fr hm => ?_
          have K₂ : Kp s₁ { s₁ with heap := h' } := Kp.mk' hk'
          refine q _ _ (K₁.trans K₂) (.list (fun x => ?_) hm rfl rfl ?_)
          · obtain ⟨o', e'⟩ := S₁.dom _ x; rw [fr] at e'; cases e'
          · simpa using (KL.srt (.cons (r0.keeps hk') (.cons (r1.keeps hk') (.cons (r2.keeps hk') (.cons (r3.keeps hk') .nil))))).rvs
end
end Mine


namespace Mine
abbrev pp : Program := PySem.Challenge.pw_un0032_01
noncomputable def defB (n : Str) : List Stmt := match pp.theDef n with
  | some (_, b, _) => b
  | none => []
noncomputable def defS (n : Str) : Scope := match pp.theDef n with
  | some (_, _, s) => s
  | none => { kind := .function, names := [], isGenerator := false, isCoroutine := false, more := [] }
noncomputable def defA (n : Str) : Arguments := match pp.theDef n with
  | some (a, _, _) => a
  | none => { posonlyargs := [], args := [], vararg := none, kwonlyargs := [], kw_defaults := [], kwarg := none, defaults := [] }
noncomputable def nthB (l : List Stmt) (i : Nat) : Stmt := l.getD i (.Pass ⟨0, 0, 0, 0⟩)
end Mine



namespace Mine
section
variable {prog : Program} {w : World} {hb : Heap} {k : Nat} {mg mb : Str → Option Value}
noncomputable def Γ__law_claims : Lay := [("claims", .own), ("lacking", .loc), ("leaves", .loc), ("apart", .loc)]
noncomputable def d__law_claims : Rho → Option Out := (seqS (asgO (limL (fun _ => some [])) 0)
  (seqS (forD (range1 (fun _ => some (.int 4))) (setN 1) (seqS (asg (compD (range1 (fun _ => some (.int 4))) [none, some 1] (.one 0) (cmp neC (fun ρ => rget ρ 0) (fun ρ => rget ρ 1)) (fun ρ => rget ρ 0)) (setN 2))
  (seqS (forD (seqL (fun ρ => rget ρ 2)) (setN 3) (seqS (appD 0 (bin addD (compD (seqL (fun ρ => rget ρ 2)) [none, some 3] (.one 0) (cmp neC (fun ρ => rget ρ 0) (fun ρ => rget ρ 1)) (fun ρ => rget ρ 0)) (listD (consD (fun ρ => rget ρ 3) (fun _ => some [])))))
  (fun ρ => some (.next ρ))) (fun ρ => some (.next ρ)))
  (fun ρ => some (.next ρ)))) (fun ρ => some (.next ρ)))
  (seqS (retS fun ρ => rget ρ 0)
  (fun ρ => some (.next ρ)))))
noncomputable def g_law_claims : List PyData → Option PyData := defG 4 (plainG 0) (d__law_claims)
theorem walk__law_claims (G : GlobOk mg mb hb) (hn_range : mg "range" = none) (hv_range : mb "range" = some (.type "range")) : SimS prog w hb k Γ__law_claims (defS "_law_claims") (d__law_claims) (defB "_law_claims") :=
  (S_cons (S_assign_own (i := 0) (by rfl) (by rfl) (F_list L_nil) (fun env _ => (by rfl)))
  (S_cons (S_for (I_range1 G (by rfl) hn_range hv_range R_int (fun _ => (by rfl))) (A_name (i := 1) (by rfl) (by rfl)) (S_cons (S_assign_used (i := 2) (by rfl) (by rfl) (by rfl) (Γ' := [("leaf", .loc), ("lacking", .ro)]) (cap := [none, some 1]) (t := (.one 0)) (by decide) (I_range1 G (by rfl) hn_range hv_range R_int (fun _ => (by rfl))) (A_one (i := 0) (by rfl) (by rfl)) (T_one (C_cmp Cmp_ne (R_name (i := 0) (by rfl) (by rfl) (by rfl) (by rfl) (by rfl)).toB (R_name (i := 1) (by rfl) (by rfl) (by rfl) (by rfl) (by rfl)).toB (by rfl))) (R_name (i := 0) (by rfl) (by rfl) (by rfl) (by rfl) (by rfl)) (fun _ _ => (by rfl)))
  (S_cons (S_for (I_seq (R_name (i := 2) (by rfl) (by rfl) (by rfl) (by rfl) (by rfl))) (A_name (i := 3) (by rfl) (by rfl)) (S_cons (S_append (i := 0) (by rfl) (by rfl) (by rfl) (by rfl) (R_bin Op_add (R_listcomp (Γ' := [("leaf", .loc), ("apart", .ro)]) (cap := [none, some 3]) (t := (.one 0)) (by decide) (I_seq (R_name (i := 2) (by rfl) (by rfl) (by rfl) (by rfl) (by rfl))) (A_one (i := 0) (by rfl) (by rfl)) (T_one (C_cmp Cmp_ne (R_name (i := 0) (by rfl) (by rfl) (by rfl) (by rfl) (by rfl)).toB (R_name (i := 1) (by rfl) (by rfl) (by rfl) (by rfl) (by rfl)).toB (by rfl))) (R_name (i := 0) (by rfl) (by rfl) (by rfl) (by rfl) (by rfl)) (fun _ _ => (by rfl))).toB (R_list (L_cons (R_name (i := 3) (by rfl) (by rfl) (by rfl) (by rfl) (by rfl)) L_nil (fun _ => (by rfl)))).toB) (fun _ => ⟨_, (by rfl)⟩) (fun _ => (by rfl)) (fun _ h => inter h (by rfl)))
  S_nil) S_nil (fun _ _ => (by rfl)))
  S_nil)) S_nil (fun _ _ => (by rfl)))
  (S_cons (S_return_own (i := 0) (by rfl) (by rfl) (by rfl) (by rfl))
  S_nil)))
noncomputable def Γ_S_IFMT : Lay := [("mode", .loc)]
noncomputable def d_S_IFMT : Rho → Option Out := (seqS (retS (bin andD (fun ρ => rget ρ 0) (fun _ => some (.int 61440))))
  (fun ρ => some (.next ρ)))
noncomputable def g_S_IFMT : List PyData → Option PyData := defG 1 (plainG 1) (d_S_IFMT)
theorem walk_S_IFMT (G : GlobOk mg mb hb) : SimS prog w hb k Γ_S_IFMT (defS "S_IFMT") (d_S_IFMT) (defB "S_IFMT") :=
  (S_cons (S_return (R_bin Op_and (R_name (i := 0) (by rfl) (by rfl) (by rfl) (by rfl) (by rfl)).toB R_int.toB))
  S_nil)
noncomputable def Γ__law_number : Lay := [("one", .loc), ("other", .loc), ("apart", .loc), ("lacking", .loc)]
noncomputable def d__law_number : Rho → Option Out := (seqS (asg (bin subD (bin subD (bin subD (fun _ => some (.int 6)) (fun ρ => rget ρ 0)) (fun ρ => rget ρ 1)) (fun ρ => rget ρ 2)) (setN 3))
  (seqS (retS (bin subD (bin addD (bin mulD (fun _ => some (.int 3)) (fun ρ => rget ρ 3)) (fun ρ => rget ρ 2)) (ifD (cmp gtC (fun ρ => rget ρ 2) (fun ρ => rget ρ 3)) (fun _ => some (.int 1)) (fun _ => some (.int 0)))))
  (fun ρ => some (.next ρ))))
noncomputable def g_law_number : List PyData → Option PyData := defG 4 (plainG 3) (d__law_number)
theorem walk__law_number (G : GlobOk mg mb hb) : SimS prog w hb k Γ__law_number (defS "_law_number") (d__law_number) (defB "_law_number") :=
  (S_cons (S_assign (i := 3) (by rfl) (by rfl) (R_bin Op_sub (R_bin Op_sub (R_bin Op_sub R_int.toB (R_name (i := 0) (by rfl) (by rfl) (by rfl) (by rfl) (by rfl)).toB).toB (R_name (i := 1) (by rfl) (by rfl) (by rfl) (by rfl) (by rfl)).toB).toB (R_name (i := 2) (by rfl) (by rfl) (by rfl) (by rfl) (by rfl)).toB) (fun env _ => (by rfl)))
  (S_cons (S_return (R_bin Op_sub (R_bin Op_add (R_bin Op_mul R_int.toB (R_name (i := 3) (by rfl) (by rfl) (by rfl) (by rfl) (by rfl)).toB).toB (R_name (i := 2) (by rfl) (by rfl) (by rfl) (by rfl) (by rfl)).toB).toB (R_ifexp (C_cmp Cmp_gt (R_name (i := 2) (by rfl) (by rfl) (by rfl) (by rfl) (by rfl)).toB (R_name (i := 3) (by rfl) (by rfl) (by rfl) (by rfl) (by rfl)).toB (by rfl)) R_int R_int).toB))
  S_nil))
noncomputable def Γ__deduplicate_unhashable : Lay := [("unhashable_params", .loc), ("new_unhashable", .own), ("t", .loc)]
noncomputable def d__deduplicate_unhashable : Rho → Option Out := (seqS (asgO (limL (fun _ => some [])) 1)
  (seqS (forD (seqL (fun ρ => rget ρ 0)) (setN 2) (seqS (ifD (cmp notInC (fun ρ => rget ρ 2) (fun ρ => rget ρ 1)) (seqS (appD 1 (fun ρ => rget ρ 2))
  (fun ρ => some (.next ρ))) (fun ρ => some (.next ρ)))
  (fun ρ => some (.next ρ))) (fun ρ => some (.next ρ)))
  (seqS (retS fun ρ => rget ρ 1)
  (fun ρ => some (.next ρ)))))
noncomputable def g_deduplicate_unhashable : List PyData → Option PyData := defG 3 (plainG 1) (d__deduplicate_unhashable)
theorem walk__deduplicate_unhashable (G : GlobOk mg mb hb) : SimS prog w hb k Γ__deduplicate_unhashable (defS "_deduplicate_unhashable") (d__deduplicate_unhashable) (defB "_deduplicate_unhashable") :=
  (S_cons (S_assign_own (i := 1) (by rfl) (by rfl) (F_list L_nil) (fun env _ => (by rfl)))
  (S_cons (S_for (I_seq (R_name (i := 0) (by rfl) (by rfl) (by rfl) (by rfl) (by rfl))) (A_name (i := 2) (by rfl) (by rfl)) (S_cons (S_if (C_cmp Cmp_notIn (R_name (i := 2) (by rfl) (by rfl) (by rfl) (by rfl) (by rfl)).toB (R_nameB (i := 1) (by rfl) (by rfl) (by rfl) (by rfl) (by rfl)) (by rfl)) (S_cons (S_append (i := 1) (by rfl) (by rfl) (by rfl) (by rfl) (R_name (i := 2) (by rfl) (by rfl) (by rfl) (by rfl) (by rfl)) (fun _ => ⟨_, (by rfl)⟩) (fun _ => (by rfl)) (fun _ h => inter h (by rfl)))
  S_nil) S_nil)
  S_nil) S_nil (fun _ _ => (by rfl)))
  (S_cons (S_return_own (i := 1) (by rfl) (by rfl) (by rfl) (by rfl))
  S_nil)))
noncomputable def Γ__law_row : Lay := [("mode", .loc), ("row", .loc), ("k", .loc), ("bit", .loc)]
noncomputable def d__law_row : Rho → Option Out := (seqS (asg (fun _ => some (.str "-")) (setN 1))
  (seqS (forD (range1 (fun _ => some (.int 9))) (setN 2) (seqS (asg (bin andD (bin shrD (fun ρ => rget ρ 0) (bin subD (fun _ => some (.int 8)) (fun ρ => rget ρ 2))) (fun _ => some (.int 1))) (setN 3))
  (seqS (ifD (cmp eqC (bin fmodD (fun ρ => rget ρ 2) (fun _ => some (.int 3))) (fun _ => some (.int 2))) (seqS (augD 1 (bin itemD (bin itemD (listD (consD (fun _ => some (.str "-xSs")) (consD (fun _ => some (.str "-xSs")) (consD (fun _ => some (.str "-xTt")) (fun _ => some []))))) (bin fdivD (fun ρ => rget ρ 2) (fun _ => some (.int 3)))) (bin addD (bin mulD (fun _ => some (.int 2)) (bin andD (bin shrD (fun ρ => rget ρ 0) (bin subD (fun _ => some (.int 11)) (bin fdivD (fun ρ => rget ρ 2) (fun _ => some (.int 3))))) (fun _ => some (.int 1)))) (fun ρ => rget ρ 3))))
  (fun ρ => some (.next ρ))) (seqS (augD 1 (ifD (truthC (fun ρ => rget ρ 3)) (bin itemD (fun _ => some (.str "rw")) (bin fmodD (fun ρ => rget ρ 2) (fun _ => some (.int 3)))) (fun _ => some (.str "-"))))
  (fun ρ => some (.next ρ))))
  (fun ρ => some (.next ρ)))) (fun ρ => some (.next ρ)))
  (seqS (retS (fun ρ => rget ρ 1))
  (fun ρ => some (.next ρ)))))
noncomputable def g_law_row : List PyData → Option PyData := defG 4 (plainG 1) (d__law_row)
theorem walk__law_row (G : GlobOk mg mb hb) (hn_range : mg "range" = none) (hv_range : mb "range" = some (.type "range")) : SimS prog w hb k Γ__law_row (defS "_law_row") (d__law_row) (defB "_law_row") :=
  (S_cons (S_assign (i := 1) (by rfl) (by rfl) R_str (fun env _ => (by rfl)))
  (S_cons (S_for (I_range1 G (by rfl) hn_range hv_range R_int (fun _ => (by rfl))) (A_name (i := 2) (by rfl) (by rfl)) (S_cons (S_assign (i := 3) (by rfl) (by rfl) (R_bin Op_and (R_bin Op_shr (R_name (i := 0) (by rfl) (by rfl) (by rfl) (by rfl) (by rfl)).toB (R_bin Op_sub R_int.toB (R_name (i := 2) (by rfl) (by rfl) (by rfl) (by rfl) (by rfl)).toB).toB).toB R_int.toB) (fun env _ => (by rfl)))
  (S_cons (S_if (C_cmp Cmp_eq (R_bin Op_fmod (R_name (i := 2) (by rfl) (by rfl) (by rfl) (by rfl) (by rfl)).toB R_int.toB).toB R_int.toB (by rfl)) (S_cons (S_augstr (i := 1) (by rfl) (by rfl) (R_item (R_item (R_list (L_cons R_str (L_cons R_str (L_cons R_str L_nil (fun _ => (by rfl))) (fun _ => (by rfl))) (fun _ => (by rfl)))).toB (R_bin Op_fdiv (R_name (i := 2) (by rfl) (by rfl) (by rfl) (by rfl) (by rfl)).toB R_int.toB) (fun _ _ => (by rfl))).toB (R_bin Op_add (R_bin Op_mul R_int.toB (R_bin Op_and (R_bin Op_shr (R_name (i := 0) (by rfl) (by rfl) (by rfl) (by rfl) (by rfl)).toB (R_bin Op_sub R_int.toB (R_bin Op_fdiv (R_name (i := 2) (by rfl) (by rfl) (by rfl) (by rfl) (by rfl)).toB R_int.toB).toB).toB).toB R_int.toB).toB).toB (R_name (i := 3) (by rfl) (by rfl) (by rfl) (by rfl) (by rfl)).toB) (fun _ _ => (by rfl))))
  S_nil) (S_cons (S_augstr (i := 1) (by rfl) (by rfl) (R_ifexp (C_value (R_name (i := 3) (by rfl) (by rfl) (by rfl) (by rfl) (by rfl)).toB (fun _ _ => (by rfl))) (R_item R_str.toB (R_bin Op_fmod (R_name (i := 2) (by rfl) (by rfl) (by rfl) (by rfl) (by rfl)).toB R_int.toB) (fun _ _ => (by rfl))) R_str))
  S_nil))
  S_nil)) S_nil (fun _ _ => (by rfl)))
  (S_cons (S_return (R_name (i := 1) (by rfl) (by rfl) (by rfl) (by rfl) (by rfl)))
  S_nil)))
noncomputable def Γ__law_trees : Lay := [("trees", .own), ("one", .loc), ("other", .loc), ("third", .loc), ("fourth", .loc), ("both", .loc)]
noncomputable def d__law_trees : Rho → Option Out := (seqS (asgO (limL (fun _ => some [])) 0)
  (seqS (forD (range1 (fun _ => some (.int 4))) (setN 1) (seqS (forD (range2 (bin addD (fun ρ => rget ρ 1) (fun _ => some (.int 1))) (fun _ => some (.int 4))) (setN 2) (seqS (asg (compD (range1 (fun _ => some (.int 4))) [none, some 1, some 2] (.one 0) (andC (cmp neC (fun ρ => rget ρ 0) (fun ρ => rget ρ 1)) (andC (cmp neC (fun ρ => rget ρ 0) (fun ρ => rget ρ 2)) (fun _ => some true))) (fun ρ => rget ρ 0)) (bindT (.tup [3, 4])))
  (seqS (asg (listD (consD (callD g_law_number (consD (fun ρ => rget ρ 1) (consD (fun ρ => rget ρ 2) (consD (fun ρ => rget ρ 3) (fun _ => some []))))) (consD (callD g_law_number (consD (fun ρ => rget ρ 1) (consD (fun ρ => rget ρ 2) (consD (fun ρ => rget ρ 4) (fun _ => some []))))) (fun _ => some [])))) (setN 5))
  (seqS (ifD (cmp eqC (fun ρ => rget ρ 1) (fun _ => some (.int 0))) (seqS (appD 0 (bin addD (fun ρ => rget ρ 5) (listD (consD (callD g_law_number (consD (fun ρ => rget ρ 3) (consD (fun ρ => rget ρ 4) (consD (fun ρ => rget ρ 1) (fun _ => some []))))) (consD (callD g_law_number (consD (fun ρ => rget ρ 3) (consD (fun ρ => rget ρ 4) (consD (fun ρ => rget ρ 2) (fun _ => some []))))) (fun _ => some []))))))
  (fun ρ => some (.next ρ))) (fun ρ => some (.next ρ)))
  (seqS (appD 0 (bin addD (fun ρ => rget ρ 5) (listD (consD (callD g_law_number (consD (fun ρ => rget ρ 1) (consD (fun ρ => rget ρ 3) (consD (fun ρ => rget ρ 4) (fun _ => some []))))) (consD (callD g_law_number (consD (fun ρ => rget ρ 2) (consD (fun ρ => rget ρ 3) (consD (fun ρ => rget ρ 4) (fun _ => some []))))) (fun _ => some []))))))
  (seqS (appD 0 (bin addD (fun ρ => rget ρ 5) (listD (consD (callD g_law_number (consD (fun ρ => rget ρ 1) (consD (fun ρ => rget ρ 4) (consD (fun ρ => rget ρ 3) (fun _ => some []))))) (consD (callD g_law_number (consD (fun ρ => rget ρ 2) (consD (fun ρ => rget ρ 4) (consD (fun ρ => rget ρ 3) (fun _ => some []))))) (fun _ => some []))))))
  (fun ρ => some (.next ρ))))))) (fun ρ => some (.next ρ)))
  (fun ρ => some (.next ρ))) (fun ρ => some (.next ρ)))
  (seqS (retS fun ρ => rget ρ 0)
  (fun ρ => some (.next ρ)))))
noncomputable def g_law_trees : List PyData → Option PyData := defG 6 (plainG 0) (d__law_trees)
theorem walk__law_trees (G : GlobOk mg mb hb) (hn_range : mg "range" = none) (hv_range : mb "range" = some (.type "range")) {a__law_number : Addr} {o__law_number : Obj} {fd__law_number : FuncData} (hv__law_number : mg "_law_number" = some (.ref a__law_number)) (ho__law_number : hb.get? a__law_number = some o__law_number) (hd__law_number : o__law_number.data = .func fd__law_number) (hc__law_number : CallOk prog w hb k (.ref a__law_number) g_law_number) : SimS prog w hb k Γ__law_trees (defS "_law_trees") (d__law_trees) (defB "_law_trees") :=
  (S_cons (S_assign_own (i := 0) (by rfl) (by rfl) (F_list L_nil) (fun env _ => (by rfl)))
  (S_cons (S_for (I_range1 G (by rfl) hn_range hv_range R_int (fun _ => (by rfl))) (A_name (i := 1) (by rfl) (by rfl)) (S_cons (S_for (I_range2 G (by rfl) hn_range hv_range (R_bin Op_add (R_name (i := 1) (by rfl) (by rfl) (by rfl) (by rfl) (by rfl)).toB R_int.toB) R_int (fun _ => (by rfl)) (fun _ => (by rfl))) (A_name (i := 2) (by rfl) (by rfl)) (S_cons (S_assign_tup (R_listcomp (Γ' := [("leaf", .loc), ("one", .ro), ("other", .ro)]) (cap := [none, some 1, some 2]) (t := (.one 0)) (by decide) (I_range1 G (by rfl) hn_range hv_range R_int (fun _ => (by rfl))) (A_one (i := 0) (by rfl) (by rfl)) (T_one (C_bool (All_and_cons (C_cmp Cmp_ne (R_name (i := 0) (by rfl) (by rfl) (by rfl) (by rfl) (by rfl)).toB (R_name (i := 1) (by rfl) (by rfl) (by rfl) (by rfl) (by rfl)).toB (by rfl)) (All_and_cons (C_cmp Cmp_ne (R_name (i := 0) (by rfl) (by rfl) (by rfl) (by rfl) (by rfl)).toB (R_name (i := 2) (by rfl) (by rfl) (by rfl) (by rfl) (by rfl)).toB (by rfl)) All_and_nil)))) (R_name (i := 0) (by rfl) (by rfl) (by rfl) (by rfl) (by rfl)) (fun _ _ => (by rfl))) (A_tup (As_cons (i := 3) (by rfl) (by rfl) (As_cons (i := 4) (by rfl) (by rfl) As_nil)) (fun _ => (by rfl)) (fun _ => (by rfl))) (fun _ _ => (by rfl)) (fun _ _ => (by rfl)))
  (S_cons (S_assign (i := 5) (by rfl) (by rfl) (R_list (L_cons (R_call G (by rfl) hv__law_number ho__law_number hd__law_number hc__law_number (L_cons (R_name (i := 1) (by rfl) (by rfl) (by rfl) (by rfl) (by rfl)) (L_cons (R_name (i := 2) (by rfl) (by rfl) (by rfl) (by rfl) (by rfl)) (L_cons (R_name (i := 3) (by rfl) (by rfl) (by rfl) (by rfl) (by rfl)) L_nil (fun _ => (by rfl))) (fun _ => (by rfl))) (fun _ => (by rfl))) (fun _ => (by rfl)) (fun _ => (by rfl))) (L_cons (R_call G (by rfl) hv__law_number ho__law_number hd__law_number hc__law_number (L_cons (R_name (i := 1) (by rfl) (by rfl) (by rfl) (by rfl) (by rfl)) (L_cons (R_name (i := 2) (by rfl) (by rfl) (by rfl) (by rfl) (by rfl)) (L_cons (R_name (i := 4) (by rfl) (by rfl) (by rfl) (by rfl) (by rfl)) L_nil (fun _ => (by rfl))) (fun _ => (by rfl))) (fun _ => (by rfl))) (fun _ => (by rfl)) (fun _ => (by rfl))) L_nil (fun _ => (by rfl))) (fun _ => (by rfl)))) (fun env _ => (by rfl)))
  (S_cons (S_if (C_cmp Cmp_eq (R_name (i := 1) (by rfl) (by rfl) (by rfl) (by rfl) (by rfl)).toB R_int.toB (by rfl)) (S_cons (S_append (i := 0) (by rfl) (by rfl) (by rfl) (by rfl) (R_bin Op_add (R_name (i := 5) (by rfl) (by rfl) (by rfl) (by rfl) (by rfl)).toB (R_list (L_cons (R_call G (by rfl) hv__law_number ho__law_number hd__law_number hc__law_number (L_cons (R_name (i := 3) (by rfl) (by rfl) (by rfl) (by rfl) (by rfl)) (L_cons (R_name (i := 4) (by rfl) (by rfl) (by rfl) (by rfl) (by rfl)) (L_cons (R_name (i := 1) (by rfl) (by rfl) (by rfl) (by rfl) (by rfl)) L_nil (fun _ => (by rfl))) (fun _ => (by rfl))) (fun _ => (by rfl))) (fun _ => (by rfl)) (fun _ => (by rfl))) (L_cons (R_call G (by rfl) hv__law_number ho__law_number hd__law_number hc__law_number (L_cons (R_name (i := 3) (by rfl) (by rfl) (by rfl) (by rfl) (by rfl)) (L_cons (R_name (i := 4) (by rfl) (by rfl) (by rfl) (by rfl) (by rfl)) (L_cons (R_name (i := 2) (by rfl) (by rfl) (by rfl) (by rfl) (by rfl)) L_nil (fun _ => (by rfl))) (fun _ => (by rfl))) (fun _ => (by rfl))) (fun _ => (by rfl)) (fun _ => (by rfl))) L_nil (fun _ => (by rfl))) (fun _ => (by rfl)))).toB) (fun _ => ⟨_, (by rfl)⟩) (fun _ => (by rfl)) (fun _ h => inter h (by rfl)))
  S_nil) S_nil)
  (S_cons (S_append (i := 0) (by rfl) (by rfl) (by rfl) (by rfl) (R_bin Op_add (R_name (i := 5) (by rfl) (by rfl) (by rfl) (by rfl) (by rfl)).toB (R_list (L_cons (R_call G (by rfl) hv__law_number ho__law_number hd__law_number hc__law_number (L_cons (R_name (i := 1) (by rfl) (by rfl) (by rfl) (by rfl) (by rfl)) (L_cons (R_name (i := 3) (by rfl) (by rfl) (by rfl) (by rfl) (by rfl)) (L_cons (R_name (i := 4) (by rfl) (by rfl) (by rfl) (by rfl) (by rfl)) L_nil (fun _ => (by rfl))) (fun _ => (by rfl))) (fun _ => (by rfl))) (fun _ => (by rfl)) (fun _ => (by rfl))) (L_cons (R_call G (by rfl) hv__law_number ho__law_number hd__law_number hc__law_number (L_cons (R_name (i := 2) (by rfl) (by rfl) (by rfl) (by rfl) (by rfl)) (L_cons (R_name (i := 3) (by rfl) (by rfl) (by rfl) (by rfl) (by rfl)) (L_cons (R_name (i := 4) (by rfl) (by rfl) (by rfl) (by rfl) (by rfl)) L_nil (fun _ => (by rfl))) (fun _ => (by rfl))) (fun _ => (by rfl))) (fun _ => (by rfl)) (fun _ => (by rfl))) L_nil (fun _ => (by rfl))) (fun _ => (by rfl)))).toB) (fun _ => ⟨_, (by rfl)⟩) (fun _ => (by rfl)) (fun _ h => inter h (by rfl)))
  (S_cons (S_append (i := 0) (by rfl) (by rfl) (by rfl) (by rfl) (R_bin Op_add (R_name (i := 5) (by rfl) (by rfl) (by rfl) (by rfl) (by rfl)).toB (R_list (L_cons (R_call G (by rfl) hv__law_number ho__law_number hd__law_number hc__law_number (L_cons (R_name (i := 1) (by rfl) (by rfl) (by rfl) (by rfl) (by rfl)) (L_cons (R_name (i := 4) (by rfl) (by rfl) (by rfl) (by rfl) (by rfl)) (L_cons (R_name (i := 3) (by rfl) (by rfl) (by rfl) (by rfl) (by rfl)) L_nil (fun _ => (by rfl))) (fun _ => (by rfl))) (fun _ => (by rfl))) (fun _ => (by rfl)) (fun _ => (by rfl))) (L_cons (R_call G (by rfl) hv__law_number ho__law_number hd__law_number hc__law_number (L_cons (R_name (i := 2) (by rfl) (by rfl) (by rfl) (by rfl) (by rfl)) (L_cons (R_name (i := 4) (by rfl) (by rfl) (by rfl) (by rfl) (by rfl)) (L_cons (R_name (i := 3) (by rfl) (by rfl) (by rfl) (by rfl) (by rfl)) L_nil (fun _ => (by rfl))) (fun _ => (by rfl))) (fun _ => (by rfl))) (fun _ => (by rfl)) (fun _ => (by rfl))) L_nil (fun _ => (by rfl))) (fun _ => (by rfl)))).toB) (fun _ => ⟨_, (by rfl)⟩) (fun _ => (by rfl)) (fun _ h => inter h (by rfl)))
  S_nil))))) S_nil (fun _ _ => (by rfl)))
  S_nil) S_nil (fun _ _ => (by rfl)))
  (S_cons (S_return_own (i := 0) (by rfl) (by rfl) (by rfl) (by rfl))
  S_nil)))
noncomputable def Γ_filemode : Lay := [("mode", .loc), ("perm", .own), ("index", .loc), ("table", .loc), ("bit", .loc), ("char", .loc)]
noncomputable def d_filemode : Rho → Option Out := (seqS (asgO (limL (fun _ => some [])) 1)
  (seqS (forE (seqL (fun _ => some (.tuple [.tuple [.tuple [.int 40960, .str "l"], .tuple [.int 49152, .str "s"], .tuple [.int 32768, .str "-"], .tuple [.int 24576, .str "b"], .tuple [.int 16384, .str "d"], .tuple [.int 8192, .str "c"], .tuple [.int 4096, .str "p"]], .tuple [.tuple [.int 256, .str "r"]], .tuple [.tuple [.int 128, .str "w"]], .tuple [.tuple [.int 2112, .str "s"], .tuple [.int 2048, .str "S"], .tuple [.int 64, .str "x"]], .tuple [.tuple [.int 32, .str "r"]], .tuple [.tuple [.int 16, .str "w"]], .tuple [.tuple [.int 1032, .str "s"], .tuple [.int 1024, .str "S"], .tuple [.int 8, .str "x"]], .tuple [.tuple [.int 4, .str "r"]], .tuple [.tuple [.int 2, .str "w"]], .tuple [.tuple [.int 513, .str "t"], .tuple [.int 512, .str "T"], .tuple [.int 1, .str "x"]]]))) [2, 3] (seqS (forD (seqL (fun ρ => rget ρ 3)) (bindT (.tup [4, 5])) (seqS (ifD (cmp eqC (fun ρ => rget ρ 2) (fun _ => some (.int 0))) (seqS (ifD (cmp eqC (callD g_S_IFMT (consD (fun ρ => rget ρ 0) (fun _ => some []))) (fun ρ => rget ρ 4)) (seqS (appD 1 (fun ρ => rget ρ 5))
  (seqS (fun ρ => some (.brk ρ))
  (fun ρ => some (.next ρ)))) (fun ρ => some (.next ρ)))
  (fun ρ => some (.next ρ))) (seqS (ifD (cmp eqC (bin andD (fun ρ => rget ρ 0) (fun ρ => rget ρ 4)) (fun ρ => rget ρ 4)) (seqS (appD 1 (fun ρ => rget ρ 5))
  (seqS (fun ρ => some (.brk ρ))
  (fun ρ => some (.next ρ)))) (fun ρ => some (.next ρ)))
  (fun ρ => some (.next ρ))))
  (fun ρ => some (.next ρ))) (seqS (ifD (cmp eqC (fun ρ => rget ρ 2) (fun _ => some (.int 0))) (seqS (appD 1 (fun _ => some (.str "?")))
  (fun ρ => some (.next ρ))) (seqS (appD 1 (fun _ => some (.str "-")))
  (fun ρ => some (.next ρ))))
  (fun ρ => some (.next ρ))))
  (fun ρ => some (.next ρ))) (fun ρ => some (.next ρ)))
  (seqS (retS (methD joinF (fun _ => some (.str "")) (fun ρ => rget ρ 1)))
  (fun ρ => some (.next ρ)))))
noncomputable def g_filemode : List PyData → Option PyData := defG 6 (plainG 1) (d_filemode)
theorem walk_filemode (G : GlobOk mg mb hb) (hn_enumerate : mg "enumerate" = none) (hv_enumerate : mb "enumerate" = some (.type "enumerate")) {v__filemode_table : Value} (hv__filemode_table : mg "_filemode_table" = some v__filemode_table) (hr__filemode_table : Rv (fun _ => False) hb v__filemode_table (.tuple [.tuple [.tuple [.int 40960, .str "l"], .tuple [.int 49152, .str "s"], .tuple [.int 32768, .str "-"], .tuple [.int 24576, .str "b"], .tuple [.int 16384, .str "d"], .tuple [.int 8192, .str "c"], .tuple [.int 4096, .str "p"]], .tuple [.tuple [.int 256, .str "r"]], .tuple [.tuple [.int 128, .str "w"]], .tuple [.tuple [.int 2112, .str "s"], .tuple [.int 2048, .str "S"], .tuple [.int 64, .str "x"]], .tuple [.tuple [.int 32, .str "r"]], .tuple [.tuple [.int 16, .str "w"]], .tuple [.tuple [.int 1032, .str "s"], .tuple [.int 1024, .str "S"], .tuple [.int 8, .str "x"]], .tuple [.tuple [.int 4, .str "r"]], .tuple [.tuple [.int 2, .str "w"]], .tuple [.tuple [.int 513, .str "t"], .tuple [.int 512, .str "T"], .tuple [.int 1, .str "x"]]])) {a_S_IFMT : Addr} {o_S_IFMT : Obj} {fd_S_IFMT : FuncData} (hv_S_IFMT : mg "S_IFMT" = some (.ref a_S_IFMT)) (ho_S_IFMT : hb.get? a_S_IFMT = some o_S_IFMT) (hd_S_IFMT : o_S_IFMT.data = .func fd_S_IFMT) (hc_S_IFMT : CallOk prog w hb k (.ref a_S_IFMT) g_S_IFMT) : SimS prog w hb k Γ_filemode (defS "filemode") (d_filemode) (defB "filemode") :=
  (S_cons (S_assign_own (i := 1) (by rfl) (by rfl) (F_list L_nil) (fun env _ => (by rfl)))
  (S_cons (S_forE (I_enum G (by rfl) hn_enumerate hv_enumerate (R_gconst G (by rfl) hv__filemode_table hr__filemode_table) (fun _ => (by rfl))) (As_cons (i := 2) (by rfl) (by rfl) (As_cons (i := 3) (by rfl) (by rfl) As_nil)) (fun _ => (by rfl)) (fun _ => (by rfl)) (S_cons (S_for (I_seq (R_name (i := 3) (by rfl) (by rfl) (by rfl) (by rfl) (by rfl))) (A_tup (As_cons (i := 4) (by rfl) (by rfl) (As_cons (i := 5) (by rfl) (by rfl) As_nil)) (fun _ => (by rfl)) (fun _ => (by rfl))) (S_cons (S_if (C_cmp Cmp_eq (R_name (i := 2) (by rfl) (by rfl) (by rfl) (by rfl) (by rfl)).toB R_int.toB (by rfl)) (S_cons (S_if (C_cmp Cmp_eq (R_call G (by rfl) hv_S_IFMT ho_S_IFMT hd_S_IFMT hc_S_IFMT (L_cons (R_name (i := 0) (by rfl) (by rfl) (by rfl) (by rfl) (by rfl)) L_nil (fun _ => (by rfl))) (fun _ => (by rfl)) (fun _ => (by rfl))).toB (R_name (i := 4) (by rfl) (by rfl) (by rfl) (by rfl) (by rfl)).toB (by rfl)) (S_cons (S_append (i := 1) (by rfl) (by rfl) (by rfl) (by rfl) (R_name (i := 5) (by rfl) (by rfl) (by rfl) (by rfl) (by rfl)) (fun _ => ⟨_, (by rfl)⟩) (fun _ => (by rfl)) (fun _ h => inter h (by rfl)))
  (S_cons S_break
  S_nil)) S_nil)
  S_nil) (S_cons (S_if (C_cmp Cmp_eq (R_bin Op_and (R_name (i := 0) (by rfl) (by rfl) (by rfl) (by rfl) (by rfl)).toB (R_name (i := 4) (by rfl) (by rfl) (by rfl) (by rfl) (by rfl)).toB).toB (R_name (i := 4) (by rfl) (by rfl) (by rfl) (by rfl) (by rfl)).toB (by rfl)) (S_cons (S_append (i := 1) (by rfl) (by rfl) (by rfl) (by rfl) (R_name (i := 5) (by rfl) (by rfl) (by rfl) (by rfl) (by rfl)) (fun _ => ⟨_, (by rfl)⟩) (fun _ => (by rfl)) (fun _ h => inter h (by rfl)))
  (S_cons S_break
  S_nil)) S_nil)
  S_nil))
  S_nil) (S_cons (S_if (C_cmp Cmp_eq (R_name (i := 2) (by rfl) (by rfl) (by rfl) (by rfl) (by rfl)).toB R_int.toB (by rfl)) (S_cons (S_append (i := 1) (by rfl) (by rfl) (by rfl) (by rfl) R_str (fun _ => ⟨_, (by rfl)⟩) (fun _ => (by rfl)) (fun _ h => inter h (by rfl)))
  S_nil) (S_cons (S_append (i := 1) (by rfl) (by rfl) (by rfl) (by rfl) R_str (fun _ => ⟨_, (by rfl)⟩) (fun _ => (by rfl)) (fun _ h => inter h (by rfl)))
  S_nil))
  S_nil) (fun _ _ => (by rfl)))
  S_nil) S_nil (fun _ _ => (by rfl)))
  (S_cons (S_return (R_smeth M_join PySem.F.slot_str_join PySem.F.type_str_join R_str (R_nameB (i := 1) (by rfl) (by rfl) (by rfl) (by rfl) (by rfl)) (fun _ => ⟨_, (by rfl)⟩) (fun _ => (by rfl))))
  S_nil)))
end
end Mine



namespace Mine
section
variable {prog : Program} {w : World} {hb : Heap} {k : Nat} {Γ : Lay} {sc : Scope} {mg mb : Str → Option Value}
noncomputable def strOnly (a : Option PyData) : Option Out := match a with
  | some (.str x) => some (.ret (.str x))
  | _ => none
noncomputable def Γ_fspath : Lay := [("path", .loc)]
noncomputable def d_fspath (ρ : Rho) : Option Out := strOnly (rget ρ 0)
theorem walk_fspath (G : GlobOk mg mb hb) (n1 : mg "type" = none) (v1 : mb "type" = some (.type "type")) (n2 : mg "issubclass" = none) (v2 : mb "issubclass" = some (.builtin "issubclass"))
    (n3 : mg "str" = none) (v3 : mb "str" = some (.type "str")) (n4 : mg "bytes" = none) (v4 : mb "bytes" = some (.type "bytes")) : SimS prog w hb k Γ_fspath (defS "fspath") d_fspath (defB "fspath") := by
  intro env O A Y X ρ s o Q E R S hf q
  unfold d_fspath strOnly at hf
  split at hf
  case h_2 => cases hf
  rename_i x er
  cases hf
  obtain ⟨m, V, B⟩ := S.vars
  obtain ⟨v, hm, hr⟩ := B.val 0 "path" .loc _ (by rfl) rfl er
  cases hr with
  | str _ t =>
    have hkf : env.scope.kind = .function := by rw [O.scope]; exact O.kind
    have kK : env.kindOf "kind" = some .local := by unfold Env.kindOf; rw [O.scope]; rfl
    have kP : env.kindOf "path" = some .local := by unfold Env.kindOf; rw [O.scope]; rfl
    obtain ⟨ml, hn, hml⟩ := V.ns
    have hp : ml "path" = some (.str x t) := (hml _ kP).trans hm
    refine wpAny_execs_cons ?_
    refine wpAny_Assign_Name (Call_ (load_blt G O S.base (by rfl) n1 v1 ?_) rfl) (by rfl)
    refine PyProof.Rows.callWith_type1 (wpAny_items_cons (wpAny_Name (wpAny_loadName_local hkf kP hn hp ?_) (by rfl)) (by rfl)) (by rfl) (by rfl)
    refine wpAny_items_nil (call_type_of (Tx := "str") (typeIs_str _ _ _) (by decide) ?_)
    refine wpAny_storeName_local kK hn (fun h' hn' hs => ?_) (by rw [hkf]; rfl)
    have hex : ∃ o, h'.get? env.locals = some o := let ⟨o, _, _, e, _⟩ := hn'; ⟨o, e⟩
    have st := Step.sameBut (tk := s.toks + 1) hs S.locX.1 S.locX.2 hex
    have base' : ∀ a o, hb.get? a = some o → h'.get? a = some o := fun a o e => hs.extBut _ _ (fun q => by rw [q, S.old _ S.locX.1] at e; cases e) (S.base a o e)
    refine wpAny_execs_cons (wpAny_If (wpAny_isTrue_value (Call_ (load_blt G O base' (by rfl) n2 v2 ?_) rfl) (by rfl)))
    refine PyProof.Rows.callWith_builtin1 (wpAny_items_cons (wpAny_Name (wpAny_loadName_local hkf kK hn' (if_pos rfl) ?_) (by rfl)) (by rfl)) (by rfl) (by rfl)
    refine wpAny_items_cons (wpAny_Tuple ?_) (by rfl)
    refine wpAny_items_cons (load_blt G O base' (by rfl) n3 v3 (wpAny_items_cons (load_blt G O base' (by rfl) n4 v4 (wpAny_items_nil ?_)) (by rfl))) (by rfl)
    refine ⟨by show 2 ≤ sizeLine; decide, wpAny_items_nil (call_issub (Heap.get?_push_size _ rfl) rfl (wpAny_truthy_bool ?_))⟩
    refine wpAny_execs_cons (wpAny_Return_some (wpAny_Name (wpAny_loadName_local hkf kP (hn'.push _) ((if_neg (by decide)).trans hp) ?_) (by rfl)))
    exact q _ _ ⟨_, X, rfl, st.trans (Step.of_kp (Kp.push _ _)), .str _ _⟩
end
noncomputable def g_fspath : List PyData → Option PyData := defG 1 (plainG 1) d_fspath
end Mine



namespace Mine
section
variable {prog : Program} {w : World} {hb : Heap} {k : Nat} {mg mb : Str → Option Value}
noncomputable def Γ__get_sep : Lay := [("path", .loc)]
noncomputable def d__get_sep : Rho → Option Out := (seqS (ifD (isbD (fun ρ => rget ρ 0)) (fun _ => none) (seqS (retS (fun _ => some (.str "/")))
  (fun ρ => some (.next ρ))))
  (fun ρ => some (.next ρ)))
noncomputable def g_get_sep : List PyData → Option PyData := defG 1 (plainG 1) (d__get_sep)
theorem walk__get_sep (G : GlobOk mg mb hb) (hn_bytes : mg "bytes" = none) (hv_bytes : mb "bytes" = some (.type "bytes")) (hn_isinstance : mg "isinstance" = none) (hv_isinstance : mb "isinstance" = some (.builtin "isinstance")) : SimS prog w hb k Γ__get_sep (defS "_get_sep") (d__get_sep) (defB "_get_sep") :=
  (S_cons (S_if (C_isbytes G (by rfl) hn_isinstance hv_isinstance (by rfl) hn_bytes hv_bytes (R_name (i := 0) (by rfl) (by rfl) (by rfl) (by rfl) (by rfl)) (fun _ => (by rfl))) T_none (S_cons (S_return R_str)
  S_nil))
  S_nil)
noncomputable def Γ_join : Lay := [("a", .loc), ("p", .loc), ("sep", .loc), ("path", .loc), ("b", .loc)]
noncomputable def d_join : Rho → Option Out := (seqS (asg (callD g_fspath (consD (fun ρ => rget ρ 0) (fun _ => some []))) (setN 0))
  (seqS (asg (callD g_get_sep (consD (fun ρ => rget ρ 0) (fun _ => some []))) (setN 2))
  (seqS (asg (fun ρ => rget ρ 0) (setN 3))
  (seqS (seqS (seqS (forD (seqL (fun ρ => rget ρ 1)) (setN 4) (seqS (asg (callD g_fspath (consD (fun ρ => rget ρ 4) (fun _ => some []))) (setN 4))
  (seqS (ifD (orC (truthC (methD startsF (fun ρ => rget ρ 4) (fun ρ => rget ρ 2))) (orC (fun ρ => ((truthC (fun ρ => rget ρ 3)) ρ).map (!·)) (fun _ => some false))) (seqS (asg (fun ρ => rget ρ 4) (setN 3))
  (fun ρ => some (.next ρ))) (seqS (ifD (truthC (methD endsF (fun ρ => rget ρ 3) (fun ρ => rget ρ 2))) (seqS (augD 3 (fun ρ => rget ρ 4))
  (fun ρ => some (.next ρ))) (seqS (augD 3 (bin addD (fun ρ => rget ρ 2) (fun ρ => rget ρ 4)))
  (fun ρ => some (.next ρ))))
  (fun ρ => some (.next ρ))))
  (fun ρ => some (.next ρ)))) (fun ρ => some (.next ρ)))
  (fun ρ => some (.next ρ))) (fun ρ => some (.next ρ)))
  (seqS (retS (fun ρ => rget ρ 3))
  (fun ρ => some (.next ρ)))))))
noncomputable def g_join : List PyData → Option PyData := defG 5 varG (d_join)
theorem walk_join (G : GlobOk mg mb hb) {a__get_sep : Addr} {o__get_sep : Obj} {fd__get_sep : FuncData} (hv__get_sep : mg "_get_sep" = some (.ref a__get_sep)) (ho__get_sep : hb.get? a__get_sep = some o__get_sep) (hd__get_sep : o__get_sep.data = .func fd__get_sep) (hc__get_sep : CallOk prog w hb k (.ref a__get_sep) g_get_sep) {a_fspath : Addr} {o_fspath : Obj} {fd_fspath : FuncData} (hv_fspath : mg "fspath" = some (.ref a_fspath)) (ho_fspath : hb.get? a_fspath = some o_fspath) (hd_fspath : o_fspath.data = .func fd_fspath) (hc_fspath : CallOk prog w hb k (.ref a_fspath) g_fspath) : SimS prog w hb k Γ_join (defS "join") (d_join) (defB "join") :=
  (S_cons (S_assign (i := 0) (by rfl) (by rfl) (R_call G (by rfl) hv_fspath ho_fspath hd_fspath hc_fspath (L_cons (R_name (i := 0) (by rfl) (by rfl) (by rfl) (by rfl) (by rfl)) L_nil (fun _ => (by rfl))) (fun _ => (by rfl)) (fun _ => (by rfl))) (fun env _ => (by rfl)))
  (S_cons (S_assign (i := 2) (by rfl) (by rfl) (R_call G (by rfl) hv__get_sep ho__get_sep hd__get_sep hc__get_sep (L_cons (R_name (i := 0) (by rfl) (by rfl) (by rfl) (by rfl) (by rfl)) L_nil (fun _ => (by rfl))) (fun _ => (by rfl)) (fun _ => (by rfl))) (fun env _ => (by rfl)))
  (S_cons (S_assign (i := 3) (by rfl) (by rfl) (R_name (i := 0) (by rfl) (by rfl) (by rfl) (by rfl) (by rfl)) (fun env _ => (by rfl)))
  (S_cons (S_try (S_cons (S_for (I_seq (R_name (i := 1) (by rfl) (by rfl) (by rfl) (by rfl) (by rfl))) (A_name (i := 4) (by rfl) (by rfl)) (S_cons (S_assign (i := 4) (by rfl) (by rfl) (R_call G (by rfl) hv_fspath ho_fspath hd_fspath hc_fspath (L_cons (R_name (i := 4) (by rfl) (by rfl) (by rfl) (by rfl) (by rfl)) L_nil (fun _ => (by rfl))) (fun _ => (by rfl)) (fun _ => (by rfl))) (fun env _ => (by rfl)))
  (S_cons (S_if (C_bool (All_or_cons (C_value (R_smeth M_startswith PySem.F.slot_str_startswith PySem.F.type_str_startswith (R_name (i := 4) (by rfl) (by rfl) (by rfl) (by rfl) (by rfl)) (R_name (i := 2) (by rfl) (by rfl) (by rfl) (by rfl) (by rfl)).toB (fun _ => ⟨_, (by rfl)⟩) (fun _ => (by rfl))).toB (fun _ _ => (by rfl))) (All_or_cons (C_not (C_value (R_name (i := 3) (by rfl) (by rfl) (by rfl) (by rfl) (by rfl)).toB (fun _ _ => (by rfl)))) All_or_nil))) (S_cons (S_assign (i := 3) (by rfl) (by rfl) (R_name (i := 4) (by rfl) (by rfl) (by rfl) (by rfl) (by rfl)) (fun env _ => (by rfl)))
  S_nil) (S_cons (S_if (C_value (R_smeth M_endswith PySem.F.slot_str_endswith PySem.F.type_str_endswith (R_name (i := 3) (by rfl) (by rfl) (by rfl) (by rfl) (by rfl)) (R_name (i := 2) (by rfl) (by rfl) (by rfl) (by rfl) (by rfl)).toB (fun _ => ⟨_, (by rfl)⟩) (fun _ => (by rfl))).toB (fun _ _ => (by rfl))) (S_cons (S_augstr (i := 3) (by rfl) (by rfl) (R_name (i := 4) (by rfl) (by rfl) (by rfl) (by rfl) (by rfl)))
  S_nil) (S_cons (S_augstr (i := 3) (by rfl) (by rfl) (R_bin Op_add (R_name (i := 2) (by rfl) (by rfl) (by rfl) (by rfl) (by rfl)).toB (R_name (i := 4) (by rfl) (by rfl) (by rfl) (by rfl) (by rfl)).toB))
  S_nil))
  S_nil))
  S_nil)) S_nil (fun _ _ => (by rfl)))
  S_nil) S_nil)
  (S_cons (S_return (R_name (i := 3) (by rfl) (by rfl) (by rfl) (by rfl) (by rfl)))
  S_nil)))))
end
end Mine



namespace Mine
section
variable {prog : Program} {w : World} {hb : Heap} {k : Nat} {mg mb : Str → Option Value}
noncomputable def Γ_dedup : Lay := [("params", .loc), ("unhashable_fallback", .loc)]
theorem call_dedup {a : Addr} {fd : FuncData} (G : GlobOk mg mb hb) (hn : mg "dict" = none) (hv : mb "dict" = some (.type "dict")) (D : DefAt hb a fd (defS "_deduplicate") (defB "_deduplicate"))
    (hbind : BindOk prog w hb fd ["params", "unhashable_fallback"] (kwG false)) : CallDD prog w hb (k + 1) (.ref a) := by
  intro K inst knd toD T A Y s v ks Q E R hbase hY hYo r hl q
  refine call_enter (Γ := Γ_dedup) D hbind (by decide) R hbase hY hYo (.cons r .nil) rfl fun env X s₁ A' E' O R' S K₁ new => ?_
  refine wpAny_execs_cons (wpAny_Try_except (wpAny_execs_cons (wpAny_Return_some ?_)))
  refine MethodCall_ (load_blt G O S.base (by rfl) hn hv (getFk (callWith_fk ?_ (by rfl) (by rfl)))) (by rfl)
  have K₀ : Kp s₁ { s₁ with heap := s₁.heap.push boundFk, toks := s₁.toks + 1 } := (Kp.push s₁ boundFk).trans (Kp.tok _ _)
  refine wpAny_items_cons ?_ (by rfl)
  refine (R_name (prog := prog) (w := w) (Γ := Γ_dedup) (i := 0) (x := "params") (fl := .loc) (by rfl) (by rfl) (by rfl) (by rfl) (by rfl) env O A' Y X _ _ _ _ _ R' (S.keeps K₀) (by rfl) fun v' s₂ K₂ r₂ => ?_)
  refine wpAny_items_nil ?_
  have hu : s₂.heap.get? s₁.heap.objs.size = some boundFk := K₂.get _ _ (Heap.get?_push_size _ rfl)
  refine ⟨hu, ?_⟩
  obtain ⟨b, o, vs, n, rfl, xb, e, c, dt, rr⟩ := r₂.list_inv
  have hlen := rr.length
  rw [Array.length_toList, List.length_map] at hlen
  have S₂ := (S.keeps K₀).keeps K₂
  refine fk_body (knd := knd) (ks := ks) R'.1 (T.all rr) (by omega) ⟨o, e, c.cls, n, dt⟩ (fun h' tk hd hk => ?_) hu
  exact q _ _ (((K₁.trans K₀).trans K₂).trans (Kp.mk' hk)) (beq_eq_false_iff_ne.mpr (Nat.ne_of_gt (modules_low (G.lim.keeps S₂.base)))) hd
end
end Mine


namespace Mine
section
variable {prog : Program} {w : World} {hb : Heap} {k : Nat} {mg mb : Str → Option Value}
noncomputable def dG_0 (gr : List PyData → Option PyData) : Rho → Option Out := (asgO (compL (range1 (fun _ => some (.int 4))) [none] (.one 0) (fun _ => some true) (listD (consD (fun ρ => rget ρ 0) (fun _ => some [])))) 3)
noncomputable def dG_1 (gr : List PyData → Option PyData) : Rho → Option PyData := (listDD (bin addD (bin itemD (fun ρ => rget ρ 3) (fun ρ => rget ρ 5)) (bin itemD (fun ρ => rget ρ 3) (fun ρ => rget ρ 6))))
noncomputable def dG_2 (gr : List PyData → Option PyData) : Rho → Option Out := (asg (dG_1 gr) (setN 8))
noncomputable def dG_3 (gr : List PyData → Option PyData) : Rho → Option Out := (setiD 3 (fun ρ => rget ρ 9) (fun ρ => rget ρ 8))
noncomputable def dG_4 (gr : List PyData → Option PyData) : Rho → Option Out := (forD (seqL (fun ρ => rget ρ 8)) (setN 9) (seqS (dG_3 gr)
  (fun ρ => some (.next ρ))) (fun ρ => some (.next ρ)))
noncomputable def dG_5 (gr : List PyData → Option PyData) : Rho → Option Out := (ifD (andC (cmp inC (fun ρ => rget ρ 5) (fun ρ => rget ρ 1)) (andC (cmp inC (fun ρ => rget ρ 6) (fun ρ => rget ρ 1)) (andC (cmp inC (fun ρ => rget ρ 7) (fun ρ => rget ρ 1)) (fun _ => some true)))) (seqS (dG_2 gr)
  (seqS (dG_4 gr)
  (fun ρ => some (.next ρ)))) (fun ρ => some (.next ρ)))
noncomputable def dG_6 (gr : List PyData → Option PyData) : Rho → Option Out := (forD (seqL (fun ρ => rget ρ 0)) (bindT (.tup [5, 6, 7])) (seqS (dG_5 gr)
  (fun ρ => some (.next ρ))) (fun ρ => some (.next ρ)))
noncomputable def dG_7 (gr : List PyData → Option PyData) : Rho → Option PyData := (callD g_deduplicate_unhashable (consD (compD (seqL (fun ρ => rget ρ 1)) [none, some 3] (.one 0) (fun _ => some true) (bin itemD (fun ρ => rget ρ 1) (fun ρ => rget ρ 0))) (fun _ => some [])))
noncomputable def dG_8 (gr : List PyData → Option PyData) : Rho → Option Out := (asg (dG_7 gr) (setN 10))
noncomputable def dG_9 (gr : List PyData → Option PyData) : Rho → Option Out := (retS (listD (fun _ => some [])))
noncomputable def dG_10 (gr : List PyData → Option PyData) : Rho → Option Out := (ifD (cmp eqC (lenD (fun ρ => rget ρ 10)) (fun _ => some (.int 1))) (seqS (dG_9 gr)
  (fun ρ => some (.next ρ))) (fun ρ => some (.next ρ)))
noncomputable def dG_11 (gr : List PyData → Option PyData) : Rho → Option Out := (asgO (limL (fun _ => some [])) 4)
noncomputable def dG_12 (gr : List PyData → Option PyData) : Rho → Option PyData := (callD g_join (consD (fun ρ => rget ρ 2) (consD (methD joinF (fun _ => some (.str "")) (compD (seqL (sortD (fun ρ => rget ρ 11))) [none] (.one 0) (fun _ => some true) (bin itemD (fun _ => some (.str "abcd")) (fun ρ => rget ρ 0)))) (fun _ => some []))))
noncomputable def dG_13 (gr : List PyData → Option PyData) : Rho → Option Out := (asg (dG_12 gr) (setN 12))
noncomputable def dG_14 (gr : List PyData → Option PyData) : Rho → Option PyData := (ifD (cmp eqC (lenD (fun ρ => rget ρ 11)) (fun _ => some (.int 1))) (listD (consD (listD (consD (bin itemD (fun ρ => rget ρ 11) (fun _ => some (.int 0))) (consD (fun ρ => rget ρ 12) (fun _ => some [])))) (fun _ => some []))) (callD gr (consD (fun ρ => rget ρ 0) (consD (fun ρ => rget ρ 11) (consD (fun ρ => rget ρ 12) (fun _ => some []))))))
noncomputable def dG_15 (gr : List PyData → Option PyData) : Rho → Option Out := (asg (dG_14 gr) (setN 13))
noncomputable def dG_16 (gr : List PyData → Option PyData) : Rho → Option Out := (retS (listD (fun _ => some [])))
noncomputable def dG_17 (gr : List PyData → Option PyData) : Rho → Option Out := (ifD (cmp eqC (fun ρ => rget ρ 13) (listD (fun _ => some []))) (seqS (dG_16 gr)
  (fun ρ => some (.next ρ))) (fun ρ => some (.next ρ)))
noncomputable def dG_18 (gr : List PyData → Option PyData) : Rho → Option Out := (extD 4 (fun ρ => rget ρ 13))
noncomputable def dG_19 (gr : List PyData → Option PyData) : Rho → Option Out := (forD (seqL (fun ρ => rget ρ 10)) (setN 11) (seqS (dG_13 gr)
  (seqS (dG_15 gr)
  (seqS (dG_17 gr)
  (seqS (dG_18 gr)
  (fun ρ => some (.next ρ)))))) (fun ρ => some (.next ρ)))
noncomputable def dG_20 (gr : List PyData → Option PyData) : Rho → Option Out := (retS fun ρ => rget ρ 4)
noncomputable def Γ__law_grown : Lay := [("claims", .loc), ("leaves", .loc), ("here", .loc), ("near", .own), ("ways", .own), ("one", .loc), ("other", .loc), ("apart", .loc), ("both", .loc), ("leaf", .loc), ("parts", .loc), ("part", .loc), ("way", .loc), ("below", .loc)]
noncomputable def d__law_grown (gr : List PyData → Option PyData) : Rho → Option Out := (seqS (dG_0 gr)
  (seqS (dG_6 gr)
  (retOnly (seqS (dG_8 gr)
  (seqS (dG_10 gr)
  (seqS (dG_11 gr)
  (seqS (dG_19 gr)
  (seqS (dG_20 gr)
  (fun ρ => some (.next ρ))))))))))
noncomputable def gs_law_grown (gr : List PyData → Option PyData) : List PyData → Option PyData := defG 14 (plainG 3) (d__law_grown gr)
theorem walk__law_grown (gr : List PyData → Option PyData) (G : GlobOk mg mb hb) (hn_len : mg "len" = none) (hv_len : mb "len" = some (.builtin "len")) (hn_list : mg "list" = none) (hv_list : mb "list" = some (.type "list")) (hn_range : mg "range" = none) (hv_range : mb "range" = some (.type "range")) (hn_sorted : mg "sorted" = none) (hv_sorted : mb "sorted" = some (.builtin "sorted")) {a__deduplicate : Addr} {o__deduplicate : Obj} {fd__deduplicate : FuncData} (hv__deduplicate : mg "_deduplicate" = some (.ref a__deduplicate)) (ho__deduplicate : hb.get? a__deduplicate = some o__deduplicate) (hd__deduplicate : o__deduplicate.data = .func fd__deduplicate) (hc__deduplicate : CallDD prog w hb k (.ref a__deduplicate)) {a__deduplicate_unhashable : Addr} {o__deduplicate_unhashable : Obj} {fd__deduplicate_unhashable : FuncData} (hv__deduplicate_unhashable : mg "_deduplicate_unhashable" = some (.ref a__deduplicate_unhashable)) (ho__deduplicate_unhashable : hb.get? a__deduplicate_unhashable = some o__deduplicate_unhashable) (hd__deduplicate_unhashable : o__deduplicate_unhashable.data = .func fd__deduplicate_unhashable) (hc__deduplicate_unhashable : CallOk prog w hb k (.ref a__deduplicate_unhashable) g_deduplicate_unhashable) {a__law_grown : Addr} {o__law_grown : Obj} {fd__law_grown : FuncData} (hv__law_grown : mg "_law_grown" = some (.ref a__law_grown)) (ho__law_grown : hb.get? a__law_grown = some o__law_grown) (hd__law_grown : o__law_grown.data = .func fd__law_grown) (hc__law_grown : CallOk prog w hb k (.ref a__law_grown) gr) {a_join : Addr} {o_join : Obj} {fd_join : FuncData} (hv_join : mg "join" = some (.ref a_join)) (ho_join : hb.get? a_join = some o_join) (hd_join : o_join.data = .func fd_join) (hc_join : CallOk prog w hb k (.ref a_join) g_join) : SimS prog w hb k Γ__law_grown (defS "_law_grown") (d__law_grown gr) (defB "_law_grown") :=
  (S_cons (S_assign_own (i := 3) (by rfl) (by rfl) (F_comp (Γ' := [("leaf", .loc)]) (cap := [none]) (t := (.one 0)) (by decide) (I_range1 G (by rfl) hn_range hv_range R_int (fun _ => (by rfl))) (A_one (i := 0) (by rfl) (by rfl)) T_nil (R_list (L_cons (R_name (i := 0) (by rfl) (by rfl) (by rfl) (by rfl) (by rfl)) L_nil (fun _ => (by rfl)))) (fun _ _ => (by rfl))) (fun env e => (swaps_comp e _ _ _ _ _ _).trans (by rfl)))
  (S_cons (S_for (I_seq (R_name (i := 0) (by rfl) (by rfl) (by rfl) (by rfl) (by rfl))) (A_tup (As_cons (i := 5) (by rfl) (by rfl) (As_cons (i := 6) (by rfl) (by rfl) (As_cons (i := 7) (by rfl) (by rfl) As_nil))) (fun _ => (by rfl)) (fun _ => (by rfl))) (S_cons (S_if (C_bool (All_and_cons (C_cmp Cmp_in (R_name (i := 5) (by rfl) (by rfl) (by rfl) (by rfl) (by rfl)).toB (R_name (i := 1) (by rfl) (by rfl) (by rfl) (by rfl) (by rfl)).toB (by rfl)) (All_and_cons (C_cmp Cmp_in (R_name (i := 6) (by rfl) (by rfl) (by rfl) (by rfl) (by rfl)).toB (R_name (i := 1) (by rfl) (by rfl) (by rfl) (by rfl) (by rfl)).toB (by rfl)) (All_and_cons (C_cmp Cmp_in (R_name (i := 7) (by rfl) (by rfl) (by rfl) (by rfl) (by rfl)).toB (R_name (i := 1) (by rfl) (by rfl) (by rfl) (by rfl) (by rfl)).toB (by rfl)) All_and_nil)))) (S_cons (S_assign (i := 8) (by rfl) (by rfl) (R_listDD G (by rfl) hn_list hv_list (by rfl) hv__deduplicate ho__deduplicate hd__deduplicate hc__deduplicate (R_bin Op_add (R_item (R_nameB (i := 3) (by rfl) (by rfl) (by rfl) (by rfl) (by rfl)) (R_name (i := 5) (by rfl) (by rfl) (by rfl) (by rfl) (by rfl)) (fun _ _ => (by rfl))).toB (R_item (R_nameB (i := 3) (by rfl) (by rfl) (by rfl) (by rfl) (by rfl)) (R_name (i := 6) (by rfl) (by rfl) (by rfl) (by rfl) (by rfl)) (fun _ _ => (by rfl))).toB) (fun _ => (by rfl)) (fun _ => (by rfl))) (fun env _ => (by rfl)))
  (S_cons (S_for (I_seq (R_name (i := 8) (by rfl) (by rfl) (by rfl) (by rfl) (by rfl))) (A_name (i := 9) (by rfl) (by rfl)) (S_cons (S_setitem (i := 3) (by rfl) (by rfl) (by rfl) (by rfl) (R_name (i := 8) (by rfl) (by rfl) (by rfl) (by rfl) (by rfl)) (R_name (i := 9) (by rfl) (by rfl) (by rfl) (by rfl) (by rfl)) (fun _ => (by rfl)))
  S_nil) S_nil (fun _ _ => (by rfl)))
  S_nil)) S_nil)
  S_nil) S_nil (fun _ _ => (by rfl)))
  (S_freeze (i := 3) (by rfl) (S_cons (S_assign (i := 10) (by rfl) (by rfl) (R_call G (by rfl) hv__deduplicate_unhashable ho__deduplicate_unhashable hd__deduplicate_unhashable hc__deduplicate_unhashable (L_cons (R_listcomp (Γ' := [("leaf", .loc), ("near", .ro)]) (cap := [none, some 3]) (t := (.one 0)) (by decide) (I_seq (R_name (i := 1) (by rfl) (by rfl) (by rfl) (by rfl) (by rfl))) (A_one (i := 0) (by rfl) (by rfl)) T_nil (R_item (R_name (i := 1) (by rfl) (by rfl) (by rfl) (by rfl) (by rfl)).toB (R_name (i := 0) (by rfl) (by rfl) (by rfl) (by rfl) (by rfl)) (fun _ _ => (by rfl))) (fun _ _ => (by rfl))) L_nil (fun _ => (by rfl))) (fun _ => (by rfl)) (fun _ => (by rfl))) (fun env _ => (by rfl)))
  (S_cons (S_if (C_cmp Cmp_eq (R_len G (by rfl) hn_len hv_len (R_name (i := 10) (by rfl) (by rfl) (by rfl) (by rfl) (by rfl)).toB (fun _ => (by rfl))).toB R_int.toB (by rfl)) (S_cons (S_return (R_list L_nil))
  S_nil) S_nil)
  (S_cons (S_assign_own (i := 4) (by rfl) (by rfl) (F_list L_nil) (fun env _ => (by rfl)))
  (S_cons (S_for (I_seq (R_name (i := 10) (by rfl) (by rfl) (by rfl) (by rfl) (by rfl))) (A_name (i := 11) (by rfl) (by rfl)) (S_cons (S_assign (i := 12) (by rfl) (by rfl) (R_call G (by rfl) hv_join ho_join hd_join hc_join (L_cons (R_name (i := 2) (by rfl) (by rfl) (by rfl) (by rfl) (by rfl)) (L_cons (R_smeth M_join PySem.F.slot_str_join PySem.F.type_str_join R_str (R_listcomp (Γ' := [("leaf", .loc)]) (cap := [none]) (t := (.one 0)) (by decide) (I_seq (R_sorted G (by rfl) hn_sorted hv_sorted (R_name (i := 11) (by rfl) (by rfl) (by rfl) (by rfl) (by rfl)) (fun _ => (by rfl)))) (A_one (i := 0) (by rfl) (by rfl)) T_nil (R_item R_str.toB (R_name (i := 0) (by rfl) (by rfl) (by rfl) (by rfl) (by rfl)) (fun _ _ => (by rfl))) (fun _ _ => (by rfl))).toB (fun _ => ⟨_, (by rfl)⟩) (fun _ => (by rfl))) L_nil (fun _ => (by rfl))) (fun _ => (by rfl))) (fun _ => (by rfl)) (fun _ => (by rfl))) (fun env _ => (by rfl)))
  (S_cons (S_assign (i := 13) (by rfl) (by rfl) (R_ifexp (C_cmp Cmp_eq (R_len G (by rfl) hn_len hv_len (R_name (i := 11) (by rfl) (by rfl) (by rfl) (by rfl) (by rfl)).toB (fun _ => (by rfl))).toB R_int.toB (by rfl)) (R_list (L_cons (R_list (L_cons (R_item (R_name (i := 11) (by rfl) (by rfl) (by rfl) (by rfl) (by rfl)).toB R_int (fun _ _ => (by rfl))) (L_cons (R_name (i := 12) (by rfl) (by rfl) (by rfl) (by rfl) (by rfl)) L_nil (fun _ => (by rfl))) (fun _ => (by rfl)))) L_nil (fun _ => (by rfl)))) (R_call G (by rfl) hv__law_grown ho__law_grown hd__law_grown hc__law_grown (L_cons (R_name (i := 0) (by rfl) (by rfl) (by rfl) (by rfl) (by rfl)) (L_cons (R_name (i := 11) (by rfl) (by rfl) (by rfl) (by rfl) (by rfl)) (L_cons (R_name (i := 12) (by rfl) (by rfl) (by rfl) (by rfl) (by rfl)) L_nil (fun _ => (by rfl))) (fun _ => (by rfl))) (fun _ => (by rfl))) (fun _ => (by rfl)) (fun _ => (by rfl)))) (fun env _ => (by rfl)))
  (S_cons (S_if (C_cmp Cmp_eq (R_name (i := 13) (by rfl) (by rfl) (by rfl) (by rfl) (by rfl)).toB (R_list L_nil).toB (by rfl)) (S_cons (S_return (R_list L_nil))
  S_nil) S_nil)
  (S_cons (S_extend (i := 4) (by rfl) (by rfl) (by rfl) (by rfl) (R_name (i := 13) (by rfl) (by rfl) (by rfl) (by rfl) (by rfl)) (fun _ => ⟨_, (by rfl)⟩) (fun _ => (by rfl)) (fun _ h => inter h (by rfl)))
  S_nil)))) S_nil (fun _ _ => (by rfl)))
  (S_cons (S_return_own (i := 4) (by rfl) (by rfl) (by rfl) (by rfl))
  S_nil))))))))
end
end Mine



namespace Mine
section
variable {prog : Program} {w : World} {hb : Heap} {k : Nat} {mg mb : Str → Option Value}
noncomputable def Γ_commonpath : Lay := [("paths", .loc), ("sep", .loc), ("curdir", .loc), ("split_paths", .loc), ("isabs", .loc), ("s1", .loc), ("s2", .loc), ("common", .loc), ("i", .loc), ("c", .loc), ("prefix", .loc)]
noncomputable def d_commonpath : Rho → Option Out := (seqS (asg (tupmapD (fun ρ => rget ρ 0)) (setN 0))
  (seqS (ifD (fun ρ => ((truthC (fun ρ => rget ρ 0)) ρ).map (!·)) (fun _ => none) (fun ρ => some (.next ρ)))
  (seqS (ifD (isbD (bin itemD (fun ρ => rget ρ 0) (fun _ => some (.int 0)))) (fun _ => none) (seqS (asg (fun _ => some (.str "/")) (setN 1))
  (seqS (asg (fun _ => some (.str ".")) (setN 2))
  (fun ρ => some (.next ρ)))))
  (seqS (seqS (seqS (asg (compD (seqL (fun ρ => rget ρ 0)) [none, some 1] (.one 0) (fun _ => some true) (methD splitF (fun ρ => rget ρ 0) (fun ρ => rget ρ 1))) (setN 3))
  (seqS (seqS (seqS (oneofD (seqL (fun ρ => rget ρ 0)) [none, some 1] (.one 0) (fun _ => some true) (methD startsF (fun ρ => rget ρ 0) (fun ρ => rget ρ 1)) 4)
  (fun ρ => some (.next ρ))) (fun ρ => some (.next ρ)))
  (seqS (asg (compD (seqL (fun ρ => rget ρ 3)) [none, some 2] (.one 0) (fun _ => some true) (compD (seqL (fun ρ => rget ρ 0)) [none, some 1] (.one 0) (andC (truthC (fun ρ => rget ρ 0)) (andC (cmp neC (fun ρ => rget ρ 0) (fun ρ => rget ρ 1)) (fun _ => some true))) (fun ρ => rget ρ 0))) (setN 3))
  (seqS (asg (minD (fun ρ => rget ρ 3)) (setN 5))
  (seqS (asg (maxD (fun ρ => rget ρ 3)) (setN 6))
  (seqS (asg (fun ρ => rget ρ 5) (setN 7))
  (seqS (forE (seqL (fun ρ => rget ρ 5)) [8, 9] (seqS (ifD (cmp neC (fun ρ => rget ρ 9) (bin itemD (fun ρ => rget ρ 6) (fun ρ => rget ρ 8))) (seqS (asg (bin takeD (fun ρ => rget ρ 5) (fun ρ => rget ρ 8)) (setN 7))
  (seqS (fun ρ => some (.brk ρ))
  (fun ρ => some (.next ρ)))) (fun ρ => some (.next ρ)))
  (fun ρ => some (.next ρ))) (fun ρ => some (.next ρ)))
  (seqS (asg (ifD (truthC (fun ρ => rget ρ 4)) (fun ρ => rget ρ 1) (fun _ => none)) (setN 10))
  (seqS (retS (bin addD (fun ρ => rget ρ 10) (methD joinF (fun ρ => rget ρ 1) (fun ρ => rget ρ 7))))
  (fun ρ => some (.next ρ))))))))))) (fun ρ => some (.next ρ)))
  (fun ρ => some (.next ρ))))))
noncomputable def g_commonpath : List PyData → Option PyData := defG 11 (plainG 1) (d_commonpath)
theorem walk_commonpath (G : GlobOk mg mb hb) (hn_bytes : mg "bytes" = none) (hv_bytes : mb "bytes" = some (.type "bytes")) (hn_enumerate : mg "enumerate" = none) (hv_enumerate : mb "enumerate" = some (.type "enumerate")) (hn_isinstance : mg "isinstance" = none) (hv_isinstance : mb "isinstance" = some (.builtin "isinstance")) (hn_map : mg "map" = none) (hv_map : mb "map" = some (.type "map")) (hn_max : mg "max" = none) (hv_max : mb "max" = some (.builtin "max")) (hn_min : mg "min" = none) (hv_min : mb "min" = some (.builtin "min")) (hn_tuple : mg "tuple" = none) (hv_tuple : mb "tuple" = some (.type "tuple")) {a_fspath : Addr} (hv_fspath : mg "fspath" = some (.ref a_fspath)) {k₀ : Nat} (hlt_fspath : k₀ < k) (hc_fspath : CallOk prog w hb k₀ (.ref a_fspath) g_fspath) (hg_fspath : ∀ z, g_fspath [.str z] = some (.str z)) : SimS prog w hb k Γ_commonpath (defS "commonpath") (d_commonpath) (defB "commonpath") :=
  (S_cons (S_assign (i := 0) (by rfl) (by rfl) (R_tuplemap G (by rfl) hn_tuple hv_tuple (by rfl) hn_map hv_map (by rfl) hv_fspath hlt_fspath hc_fspath hg_fspath (R_name (i := 0) (by rfl) (by rfl) (by rfl) (by rfl) (by rfl)) (fun _ => (by rfl)) (fun _ => (by rfl)) (fun _ => (by rfl))) (fun env _ => (by rfl)))
  (S_cons (S_if (C_not (C_value (R_name (i := 0) (by rfl) (by rfl) (by rfl) (by rfl) (by rfl)).toB (fun _ _ => (by rfl)))) T_none S_nil)
  (S_cons (S_if (C_isbytes G (by rfl) hn_isinstance hv_isinstance (by rfl) hn_bytes hv_bytes (R_item (R_name (i := 0) (by rfl) (by rfl) (by rfl) (by rfl) (by rfl)).toB R_int (fun _ _ => (by rfl))) (fun _ => (by rfl))) T_none (S_cons (S_assign (i := 1) (by rfl) (by rfl) R_str (fun env _ => (by rfl)))
  (S_cons (S_assign (i := 2) (by rfl) (by rfl) R_str (fun env _ => (by rfl)))
  S_nil)))
  (S_cons (S_try (S_cons (S_assign_used (i := 3) (by rfl) (by rfl) (by rfl) (Γ' := [("path", .loc), ("sep", .ro)]) (cap := [none, some 1]) (t := (.one 0)) (by decide) (I_seq (R_name (i := 0) (by rfl) (by rfl) (by rfl) (by rfl) (by rfl))) (A_one (i := 0) (by rfl) (by rfl)) T_nil (R_smeth M_split PySem.F.slot_str_split PySem.F.type_str_split (R_name (i := 0) (by rfl) (by rfl) (by rfl) (by rfl) (by rfl)) (R_name (i := 1) (by rfl) (by rfl) (by rfl) (by rfl) (by rfl)).toB (fun _ => ⟨_, (by rfl)⟩) (fun _ => (by rfl))) (fun _ _ => (by rfl)))
  (S_cons (S_try (S_cons (S_oneof (i := 4) (by rfl) (by rfl) (Γ' := [("p", .loc), ("sep", .ro)]) (cap := [none, some 1]) (t := (.one 0)) (by decide) (I_seq (R_name (i := 0) (by rfl) (by rfl) (by rfl) (by rfl) (by rfl))) (A_one (i := 0) (by rfl) (by rfl)) T_nil (R_smeth M_startswith PySem.F.slot_str_startswith PySem.F.type_str_startswith (R_name (i := 0) (by rfl) (by rfl) (by rfl) (by rfl) (by rfl)) (R_name (i := 1) (by rfl) (by rfl) (by rfl) (by rfl) (by rfl)).toB (fun _ => ⟨_, (by rfl)⟩) (fun _ => (by rfl))) (fun _ _ => (by rfl)) (fun _ _ => (by rfl)) (fun _ _ => (by rfl)))
  S_nil) S_nil)
  (S_cons (S_assign_used (i := 3) (by rfl) (by rfl) (by rfl) (Γ' := [("s", .loc), ("curdir", .ro)]) (cap := [none, some 2]) (t := (.one 0)) (by decide) (I_seq (R_name (i := 3) (by rfl) (by rfl) (by rfl) (by rfl) (by rfl))) (A_one (i := 0) (by rfl) (by rfl)) T_nil (R_listcomp (Γ' := [("c", .loc), ("curdir", .ro)]) (cap := [none, some 1]) (t := (.one 0)) (by decide) (I_seq (R_name (i := 0) (by rfl) (by rfl) (by rfl) (by rfl) (by rfl))) (A_one (i := 0) (by rfl) (by rfl)) (T_one (C_bool (All_and_cons (C_value (R_name (i := 0) (by rfl) (by rfl) (by rfl) (by rfl) (by rfl)).toB (fun _ _ => (by rfl))) (All_and_cons (C_cmp Cmp_ne (R_name (i := 0) (by rfl) (by rfl) (by rfl) (by rfl) (by rfl)).toB (R_name (i := 1) (by rfl) (by rfl) (by rfl) (by rfl) (by rfl)).toB (by rfl)) All_and_nil)))) (R_name (i := 0) (by rfl) (by rfl) (by rfl) (by rfl) (by rfl)) (fun _ _ => (by rfl))) (fun _ _ => (by rfl)))
  (S_cons (S_assign (i := 5) (by rfl) (by rfl) (R_min G (by rfl) hn_min hv_min (R_name (i := 3) (by rfl) (by rfl) (by rfl) (by rfl) (by rfl)) (fun _ => (by rfl))) (fun env _ => (by rfl)))
  (S_cons (S_assign (i := 6) (by rfl) (by rfl) (R_max G (by rfl) hn_max hv_max (R_name (i := 3) (by rfl) (by rfl) (by rfl) (by rfl) (by rfl)) (fun _ => (by rfl))) (fun env _ => (by rfl)))
  (S_cons (S_assign (i := 7) (by rfl) (by rfl) (R_name (i := 5) (by rfl) (by rfl) (by rfl) (by rfl) (by rfl)) (fun env _ => (by rfl)))
  (S_cons (S_forE (I_enum G (by rfl) hn_enumerate hv_enumerate (R_name (i := 5) (by rfl) (by rfl) (by rfl) (by rfl) (by rfl)) (fun _ => (by rfl))) (As_cons (i := 8) (by rfl) (by rfl) (As_cons (i := 9) (by rfl) (by rfl) As_nil)) (fun _ => (by rfl)) (fun _ => (by rfl)) (S_cons (S_if (C_cmp Cmp_ne (R_name (i := 9) (by rfl) (by rfl) (by rfl) (by rfl) (by rfl)).toB (R_item (R_name (i := 6) (by rfl) (by rfl) (by rfl) (by rfl) (by rfl)).toB (R_name (i := 8) (by rfl) (by rfl) (by rfl) (by rfl) (by rfl)) (fun _ _ => (by rfl))).toB (by rfl)) (S_cons (S_assign (i := 7) (by rfl) (by rfl) (R_take (R_name (i := 5) (by rfl) (by rfl) (by rfl) (by rfl) (by rfl)).toB (R_name (i := 8) (by rfl) (by rfl) (by rfl) (by rfl) (by rfl)) (fun _ _ => (by rfl))) (fun env _ => (by rfl)))
  (S_cons S_break
  S_nil)) S_nil)
  S_nil) S_nil (fun _ _ => (by rfl)))
  (S_cons (S_assign (i := 10) (by rfl) (by rfl) (R_ifexp (C_value (R_name (i := 4) (by rfl) (by rfl) (by rfl) (by rfl) (by rfl)).toB (fun _ _ => (by rfl))) (R_name (i := 1) (by rfl) (by rfl) (by rfl) (by rfl) (by rfl)) E_none) (fun env _ => (by rfl)))
  (S_cons (S_return (R_bin Op_add (R_name (i := 10) (by rfl) (by rfl) (by rfl) (by rfl) (by rfl)).toB (R_smeth M_join PySem.F.slot_str_join PySem.F.type_str_join (R_name (i := 1) (by rfl) (by rfl) (by rfl) (by rfl) (by rfl)) (R_name (i := 7) (by rfl) (by rfl) (by rfl) (by rfl) (by rfl)).toB (fun _ => ⟨_, (by rfl)⟩) (fun _ => (by rfl))).toB))
  S_nil))))))))) S_nil)
  S_nil))))
end
end Mine



namespace Mine
section
variable {prog : Program} {w : World} {hb : Heap} {k : Nat} {mg mb : Str → Option Value}
noncomputable def dL_0 (gr : List PyData → Option PyData) : Rho → Option PyData := (fun _ => g_law_claims [])
noncomputable def dL_1 (gr : List PyData → Option PyData) : Rho → Option Out := (asg (dL_0 gr) (setN 1))
noncomputable def dL_2 (gr : List PyData → Option PyData) : Rho → Option PyData := (fun _ => g_law_trees [])
noncomputable def dL_3 (gr : List PyData → Option PyData) : Rho → Option Out := (asg (dL_2 gr) (setN 2))
noncomputable def dL_4 (gr : List PyData → Option PyData) : Rho → Option PyData := (listD (fun _ => some []))
noncomputable def dL_5 (gr : List PyData → Option PyData) : Rho → Option Out := (asg (dL_4 gr) (setN 3))
noncomputable def dL_6 (gr : List PyData → Option PyData) : Rho → Option PyData := (sumSetD (listD (consD (bin shlD (fun _ => some (.int 1)) (bin fmodD (fun ρ => rget ρ 4) (fun _ => some (.int 12)))) (consD (bin shlD (fun _ => some (.int 1)) (bin fmodD (bin fdivD (fun ρ => rget ρ 4) (fun _ => some (.int 12))) (fun _ => some (.int 12)))) (fun _ => some [])))))
noncomputable def dL_7 (gr : List PyData → Option PyData) : Rho → Option Out := (asg (dL_6 gr) (setN 5))
noncomputable def dL_8 (gr : List PyData → Option PyData) : Rho → Option PyData := (callD g_filemode (consD (bin addD (fun _ => some (.int 32768)) (fun ρ => rget ρ 5)) (fun _ => some [])))
noncomputable def dL_9 (gr : List PyData → Option PyData) : Rho → Option Out := (asg (dL_8 gr) (setN 6))
noncomputable def dL_10 (gr : List PyData → Option PyData) : Rho → Option Out := (retS (fun _ => some (.bool false)))
noncomputable def dL_11 (gr : List PyData → Option PyData) : Rho → Option Out := (ifD (cmp neC (fun ρ => rget ρ 6) (callD g_law_row (consD (fun ρ => rget ρ 5) (fun _ => some [])))) (seqS (dL_10 gr)
  (fun ρ => some (.next ρ))) (fun ρ => some (.next ρ)))
noncomputable def dL_12 (gr : List PyData → Option PyData) : Rho → Option PyData := (bin addD (compD (range1 (fun _ => some (.int 3))) [none, some 6] (.one 0) (cmp inC (bin itemD (fun ρ => rget ρ 1) (bin addD (fun _ => some (.int 3)) (bin mulD (fun _ => some (.int 3)) (fun ρ => rget ρ 0)))) (fun _ => some (.str "sStT"))) (fun ρ => rget ρ 0)) (compD (range1 (fun _ => some (.int 9))) [none, some 6] (.one 0) (cmp inC (bin itemD (fun ρ => rget ρ 1) (bin addD (fun _ => some (.int 1)) (fun ρ => rget ρ 0))) (fun _ => some (.str "rwxst"))) (bin addD (fun _ => some (.int 3)) (fun ρ => rget ρ 0))))
noncomputable def dL_13 (gr : List PyData → Option PyData) : Rho → Option Out := (asg (dL_12 gr) (setN 7))
noncomputable def dL_14 (gr : List PyData → Option PyData) : Rho → Option PyData := (bin addD (fun ρ => rget ρ 3) (compD (seqL (fun ρ => rget ρ 7)) [none, some 3] (.one 0) (cmp notInC (fun ρ => rget ρ 0) (fun ρ => rget ρ 1)) (fun ρ => rget ρ 0)))
noncomputable def dL_15 (gr : List PyData → Option PyData) : Rho → Option Out := (asg (dL_14 gr) (setN 8))
noncomputable def dL_16 (gr : List PyData → Option PyData) : Rho → Option PyData := (compD (range1 (fun _ => some (.int 12))) [none, some 5] (.one 0) (truthC (bin andD (bin shrD (fun ρ => rget ρ 1) (bin subD (fun _ => some (.int 11)) (fun ρ => rget ρ 0))) (fun _ => some (.int 1)))) (fun ρ => rget ρ 0))
noncomputable def dL_17 (gr : List PyData → Option PyData) : Rho → Option Out := (asg (dL_16 gr) (setN 9))
noncomputable def dL_18 (gr : List PyData → Option PyData) : Rho → Option PyData := (compD (seqL (fun ρ => rget ρ 2)) [none, some 9] (.one 0) (cmp eqC (compD (seqL (fun ρ => rget ρ 1)) [none, some 0] (.one 0) (cmp notInC (fun ρ => rget ρ 0) (fun ρ => rget ρ 1)) (fun ρ => rget ρ 0)) (listD (fun _ => some []))) (fun ρ => rget ρ 0))
noncomputable def dL_19 (gr : List PyData → Option PyData) : Rho → Option Out := (asg (dL_18 gr) (setN 10))
noncomputable def dL_20 (gr : List PyData → Option PyData) : Rho → Option Out := (retS (fun _ => some (.bool false)))
noncomputable def dL_21 (gr : List PyData → Option PyData) : Rho → Option Out := (ifD (cmp neC (boolD (cmp neC (callD gr (consD (compD (seqL (fun ρ => rget ρ 8)) [none, some 1] (.one 0) (fun _ => some true) (bin itemD (fun ρ => rget ρ 1) (fun ρ => rget ρ 0))) (consD (listD (consD (fun _ => some (.int 0)) (consD (fun _ => some (.int 1)) (consD (fun _ => some (.int 2)) (consD (fun _ => some (.int 3)) (fun _ => some [])))))) (consD (fun _ => some (.str "/")) (fun _ => some []))))) (listD (fun _ => some [])))) (boolD (cmp neC (fun ρ => rget ρ 10) (listD (fun _ => some []))))) (seqS (dL_20 gr)
  (fun ρ => some (.next ρ))) (fun ρ => some (.next ρ)))
noncomputable def dL_22 (gr : List PyData → Option PyData) : Rho → Option PyData := (fun ρ => rget ρ 8)
noncomputable def dL_23 (gr : List PyData → Option PyData) : Rho → Option Out := (asg (dL_22 gr) (setN 3))
noncomputable def dL_24 (gr : List PyData → Option PyData) : Rho → Option PyData := (fun ρ => rget ρ 10)
noncomputable def dL_25 (gr : List PyData → Option PyData) : Rho → Option Out := (asg (dL_24 gr) (setN 2))
noncomputable def dL_26 (gr : List PyData → Option PyData) : Rho → Option Out := (ifD (cmp neC (fun ρ => rget ρ 10) (listD (fun _ => some []))) (seqS (dL_23 gr)
  (seqS (dL_25 gr)
  (fun ρ => some (.next ρ)))) (fun ρ => some (.next ρ)))
noncomputable def dL_27 (gr : List PyData → Option PyData) : Rho → Option Out := (forD (seqL (bin addD (bin takeD (fun ρ => rget ρ 0) (fun _ => some (.int 5))) (listD (consD (fun _ => some (.int 96)) (consD (fun _ => some (.int 26)) (fun _ => some [])))))) (setN 4) (seqS (dL_7 gr)
  (seqS (dL_9 gr)
  (seqS (dL_11 gr)
  (seqS (dL_13 gr)
  (seqS (dL_15 gr)
  (seqS (dL_17 gr)
  (seqS (dL_19 gr)
  (seqS (dL_21 gr)
  (seqS (dL_26 gr)
  (fun ρ => some (.next ρ))))))))))) (fun ρ => some (.next ρ)))
noncomputable def dL_28 (gr : List PyData → Option PyData) : Rho → Option PyData := (compD (seqL (sortLD (callD gr (consD (compD (seqL (fun ρ => rget ρ 3)) [none, some 1] (.one 0) (fun _ => some true) (bin itemD (fun ρ => rget ρ 1) (fun ρ => rget ρ 0))) (consD (listD (consD (fun _ => some (.int 0)) (consD (fun _ => some (.int 1)) (consD (fun _ => some (.int 2)) (consD (fun _ => some (.int 3)) (fun _ => some [])))))) (consD (fun _ => some (.str "/")) (fun _ => some []))))))) [none, none] (.tup [0, 1]) (fun _ => some true) (fun ρ => rget ρ 1))
noncomputable def dL_29 (gr : List PyData → Option PyData) : Rho → Option Out := (asg (dL_28 gr) (setN 11))
noncomputable def dL_30 (gr : List PyData → Option PyData) : Rho → Option Out := (retS (fun _ => some (.bool false)))
noncomputable def dL_31 (gr : List PyData → Option PyData) : Rho → Option Out := (ifD (cmp neC (sortSD (joinDD (fun _ => some (.str "")) (compD (seqL (fun ρ => rget ρ 11)) [none] (.one 0) (fun _ => some true) (bin itemD (methD splitF (fun ρ => rget ρ 0) (fun _ => some (.str "/"))) (fun _ => some (.int 1)))))) (listD (consD (fun _ => some (.str "a")) (consD (fun _ => some (.str "b")) (consD (fun _ => some (.str "c")) (consD (fun _ => some (.str "d")) (fun _ => some []))))))) (seqS (dL_30 gr)
  (fun ρ => some (.next ρ))) (fun ρ => some (.next ρ)))
noncomputable def dL_32 (gr : List PyData → Option PyData) : Rho → Option PyData := (compD (seqL (fun ρ => rget ρ 11)) [none, some 11] (.one 0) (fun _ => some true) (compD (seqL (fun ρ => rget ρ 1)) [none, some 0] (.one 0) (fun _ => some true) (lenD (callD g_commonpath (consD (listD (consD (fun ρ => rget ρ 1) (consD (fun ρ => rget ρ 0) (fun _ => some [])))) (fun _ => some []))))))
noncomputable def dL_33 (gr : List PyData → Option PyData) : Rho → Option Out := (asg (dL_32 gr) (setN 12))
noncomputable def dL_34 (gr : List PyData → Option PyData) : Rho → Option PyData := (compD (range1 (fun _ => some (.int 12))) [none, some 1, some 12] (.one 0) (cmp gtC (bin itemD (bin itemD (fun ρ => rget ρ 2) (bin itemD (bin itemD (fun ρ => rget ρ 1) (fun ρ => rget ρ 0)) (fun _ => some (.int 0)))) (bin itemD (bin itemD (fun ρ => rget ρ 1) (fun ρ => rget ρ 0)) (fun _ => some (.int 1)))) (bin itemD (bin itemD (fun ρ => rget ρ 2) (bin itemD (bin itemD (fun ρ => rget ρ 1) (fun ρ => rget ρ 0)) (fun _ => some (.int 0)))) (bin itemD (bin itemD (fun ρ => rget ρ 1) (fun ρ => rget ρ 0)) (fun _ => some (.int 2))))) (fun ρ => rget ρ 0))
noncomputable def dL_35 (gr : List PyData → Option PyData) : Rho → Option Out := (asg (dL_34 gr) (setN 13))
noncomputable def dL_36 (gr : List PyData → Option PyData) : Rho → Option Out := (retS (fun _ => some (.bool false)))
noncomputable def dL_37 (gr : List PyData → Option PyData) : Rho → Option Out := (ifD (orC (cmp neC (compD (seqL (fun ρ => rget ρ 3)) [none, some 13] (.one 0) (cmp notInC (fun ρ => rget ρ 0) (fun ρ => rget ρ 1)) (fun ρ => rget ρ 0)) (listD (fun _ => some []))) (orC (cmp eqC (compD (seqL (fun ρ => rget ρ 2)) [none, some 13] (.one 0) (cmp eqC (compD (seqL (fun ρ => rget ρ 1)) [none, some 0] (.one 0) (cmp notInC (fun ρ => rget ρ 0) (fun ρ => rget ρ 1)) (fun ρ => rget ρ 0)) (listD (fun _ => some []))) (fun ρ => rget ρ 0)) (listD (fun _ => some []))) (fun _ => some false))) (seqS (dL_36 gr)
  (fun ρ => some (.next ρ))) (fun ρ => some (.next ρ)))
noncomputable def dL_38 (gr : List PyData → Option PyData) : Rho → Option PyData := (callD gr (consD (compD (seqL (bin addD (fun ρ => rget ρ 3) (listD (consD (fun ρ => rget ρ 14) (fun _ => some []))))) [none, some 1] (.one 0) (fun _ => some true) (bin itemD (fun ρ => rget ρ 1) (fun ρ => rget ρ 0))) (consD (listD (consD (fun _ => some (.int 0)) (consD (fun _ => some (.int 1)) (consD (fun _ => some (.int 2)) (consD (fun _ => some (.int 3)) (fun _ => some [])))))) (consD (fun _ => some (.str "/")) (fun _ => some [])))))
noncomputable def dL_39 (gr : List PyData → Option PyData) : Rho → Option Out := (asg (dL_38 gr) (setN 15))
noncomputable def dL_40 (gr : List PyData → Option PyData) : Rho → Option Out := (retS (fun _ => some (.bool false)))
noncomputable def dL_41 (gr : List PyData → Option PyData) : Rho → Option Out := (ifD (cmp neC (boolD (cmp neC (fun ρ => rget ρ 15) (listD (fun _ => some [])))) (boolD (cmp neC (compD (seqL (fun ρ => rget ρ 2)) [none, some 14] (.one 0) (cmp inC (fun ρ => rget ρ 1) (fun ρ => rget ρ 0)) (fun ρ => rget ρ 0)) (listD (fun _ => some []))))) (seqS (dL_40 gr)
  (fun ρ => some (.next ρ))) (fun ρ => some (.next ρ)))
noncomputable def dL_42 (gr : List PyData → Option PyData) : Rho → Option Out := (forD (seqL (compD (range1 (fun _ => some (.int 12))) [none, some 13] (.one 0) (cmp notInC (fun ρ => rget ρ 0) (fun ρ => rget ρ 1)) (fun ρ => rget ρ 0))) (setN 14) (seqS (dL_39 gr)
  (seqS (dL_41 gr)
  (fun ρ => some (.next ρ)))) (fun ρ => some (.next ρ)))
noncomputable def dL_43 (gr : List PyData → Option PyData) : Rho → Option Out := (retS (fun _ => some (.bool true)))
noncomputable def Γ_law : Lay := [("script", .loc), ("claims", .loc), ("trees", .loc), ("taken", .loc), ("v", .loc), ("mode", .loc), ("row", .loc), ("said", .loc), ("tried", .loc), ("told", .loc), ("fitting", .loc), ("ways", .loc), ("depth", .loc), ("shown", .loc), ("n", .loc), ("grown", .loc)]
noncomputable def d_law (gr : List PyData → Option PyData) : Rho → Option Out := (seqS (dL_1 gr)
  (seqS (dL_3 gr)
  (seqS (dL_5 gr)
  (seqS (dL_27 gr)
  (seqS (dL_29 gr)
  (seqS (dL_31 gr)
  (seqS (dL_33 gr)
  (seqS (dL_35 gr)
  (seqS (dL_37 gr)
  (seqS (dL_42 gr)
  (seqS (dL_43 gr)
  (fun ρ => some (.next ρ)))))))))))))
noncomputable def gs_law (gr : List PyData → Option PyData) : List PyData → Option PyData := defG 16 (plainG 1) (d_law gr)
theorem walk_law (gr : List PyData → Option PyData) (G : GlobOk mg mb hb) (hn_len : mg "len" = none) (hv_len : mb "len" = some (.builtin "len")) (hn_range : mg "range" = none) (hv_range : mb "range" = some (.type "range")) (hn_set : mg "set" = none) (hv_set : mb "set" = some (.type "set")) (hn_sorted : mg "sorted" = none) (hv_sorted : mb "sorted" = some (.builtin "sorted")) (hn_sum : mg "sum" = none) (hv_sum : mb "sum" = some (.builtin "sum")) {v_S_IFREG : Value} (hv_S_IFREG : mg "S_IFREG" = some v_S_IFREG) (hr_S_IFREG : Rv (fun _ => False) hb v_S_IFREG (.int 32768)) {a__deduplicate : Addr} {o__deduplicate : Obj} {fd__deduplicate : FuncData} (hv__deduplicate : mg "_deduplicate" = some (.ref a__deduplicate)) (ho__deduplicate : hb.get? a__deduplicate = some o__deduplicate) (hd__deduplicate : o__deduplicate.data = .func fd__deduplicate) (hc__deduplicate : CallDD prog w hb k (.ref a__deduplicate)) {a__law_claims : Addr} {o__law_claims : Obj} {fd__law_claims : FuncData} (hv__law_claims : mg "_law_claims" = some (.ref a__law_claims)) (ho__law_claims : hb.get? a__law_claims = some o__law_claims) (hd__law_claims : o__law_claims.data = .func fd__law_claims) (hc__law_claims : CallOk prog w hb k (.ref a__law_claims) g_law_claims) {a__law_grown : Addr} {o__law_grown : Obj} {fd__law_grown : FuncData} (hv__law_grown : mg "_law_grown" = some (.ref a__law_grown)) (ho__law_grown : hb.get? a__law_grown = some o__law_grown) (hd__law_grown : o__law_grown.data = .func fd__law_grown) (hc__law_grown : CallOk prog w hb k (.ref a__law_grown) gr) {a__law_row : Addr} {o__law_row : Obj} {fd__law_row : FuncData} (hv__law_row : mg "_law_row" = some (.ref a__law_row)) (ho__law_row : hb.get? a__law_row = some o__law_row) (hd__law_row : o__law_row.data = .func fd__law_row) (hc__law_row : CallOk prog w hb k (.ref a__law_row) g_law_row) {a__law_trees : Addr} {o__law_trees : Obj} {fd__law_trees : FuncData} (hv__law_trees : mg "_law_trees" = some (.ref a__law_trees)) (ho__law_trees : hb.get? a__law_trees = some o__law_trees) (hd__law_trees : o__law_trees.data = .func fd__law_trees) (hc__law_trees : CallOk prog w hb k (.ref a__law_trees) g_law_trees) {a_commonpath : Addr} {o_commonpath : Obj} {fd_commonpath : FuncData} (hv_commonpath : mg "commonpath" = some (.ref a_commonpath)) (ho_commonpath : hb.get? a_commonpath = some o_commonpath) (hd_commonpath : o_commonpath.data = .func fd_commonpath) (hc_commonpath : CallOk prog w hb k (.ref a_commonpath) g_commonpath) {a_filemode : Addr} {o_filemode : Obj} {fd_filemode : FuncData} (hv_filemode : mg "filemode" = some (.ref a_filemode)) (ho_filemode : hb.get? a_filemode = some o_filemode) (hd_filemode : o_filemode.data = .func fd_filemode) (hc_filemode : CallOk prog w hb k (.ref a_filemode) g_filemode) : SimS prog w hb k Γ_law (defS "law") (d_law gr) (defB "law") :=
  (S_cons (S_assign (i := 1) (by rfl) (by rfl) (R_call0 G (by rfl) hv__law_claims ho__law_claims hd__law_claims hc__law_claims) (fun env _ => (by rfl)))
  (S_cons (S_assign (i := 2) (by rfl) (by rfl) (R_call0 G (by rfl) hv__law_trees ho__law_trees hd__law_trees hc__law_trees) (fun env _ => (by rfl)))
  (S_cons (S_assign (i := 3) (by rfl) (by rfl) (R_list L_nil) (fun env _ => (by rfl)))
  (S_cons (S_for (I_seq (R_bin Op_add (R_take (R_name (i := 0) (by rfl) (by rfl) (by rfl) (by rfl) (by rfl)).toB R_int (fun _ _ => (by rfl))).toB (R_list (L_cons R_int (L_cons R_int L_nil (fun _ => (by rfl))) (fun _ => (by rfl)))).toB)) (A_name (i := 4) (by rfl) (by rfl)) (S_cons (S_assign (i := 5) (by rfl) (by rfl) (R_sumset G (by rfl) hn_sum hv_sum (by rfl) hn_set hv_set (R_list (L_cons (R_bin Op_shl R_int.toB (R_bin Op_fmod (R_name (i := 4) (by rfl) (by rfl) (by rfl) (by rfl) (by rfl)).toB R_int.toB).toB) (L_cons (R_bin Op_shl R_int.toB (R_bin Op_fmod (R_bin Op_fdiv (R_name (i := 4) (by rfl) (by rfl) (by rfl) (by rfl) (by rfl)).toB R_int.toB).toB R_int.toB).toB) L_nil (fun _ => (by rfl))) (fun _ => (by rfl)))) (fun _ => (by rfl)) (fun _ => (by rfl))) (fun env _ => (by rfl)))
  (S_cons (S_assign (i := 6) (by rfl) (by rfl) (R_call G (by rfl) hv_filemode ho_filemode hd_filemode hc_filemode (L_cons (R_bin Op_add (R_gconst G (by rfl) hv_S_IFREG hr_S_IFREG).toB (R_name (i := 5) (by rfl) (by rfl) (by rfl) (by rfl) (by rfl)).toB) L_nil (fun _ => (by rfl))) (fun _ => (by rfl)) (fun _ => (by rfl))) (fun env _ => (by rfl)))
  (S_cons (S_if (C_cmp Cmp_ne (R_name (i := 6) (by rfl) (by rfl) (by rfl) (by rfl) (by rfl)).toB (R_call G (by rfl) hv__law_row ho__law_row hd__law_row hc__law_row (L_cons (R_name (i := 5) (by rfl) (by rfl) (by rfl) (by rfl) (by rfl)) L_nil (fun _ => (by rfl))) (fun _ => (by rfl)) (fun _ => (by rfl))).toB (by rfl)) (S_cons (S_return R_bool)
  S_nil) S_nil)
  (S_cons (S_assign (i := 7) (by rfl) (by rfl) (R_bin Op_add (R_listcomp (Γ' := [("k", .loc), ("row", .ro)]) (cap := [none, some 6]) (t := (.one 0)) (by decide) (I_range1 G (by rfl) hn_range hv_range R_int (fun _ => (by rfl))) (A_one (i := 0) (by rfl) (by rfl)) (T_one (C_cmp Cmp_in (R_item (R_name (i := 1) (by rfl) (by rfl) (by rfl) (by rfl) (by rfl)).toB (R_bin Op_add R_int.toB (R_bin Op_mul R_int.toB (R_name (i := 0) (by rfl) (by rfl) (by rfl) (by rfl) (by rfl)).toB).toB) (fun _ _ => (by rfl))).toB R_str.toB (by rfl))) (R_name (i := 0) (by rfl) (by rfl) (by rfl) (by rfl) (by rfl)) (fun _ _ => (by rfl))).toB (R_listcomp (Γ' := [("k", .loc), ("row", .ro)]) (cap := [none, some 6]) (t := (.one 0)) (by decide) (I_range1 G (by rfl) hn_range hv_range R_int (fun _ => (by rfl))) (A_one (i := 0) (by rfl) (by rfl)) (T_one (C_cmp Cmp_in (R_item (R_name (i := 1) (by rfl) (by rfl) (by rfl) (by rfl) (by rfl)).toB (R_bin Op_add R_int.toB (R_name (i := 0) (by rfl) (by rfl) (by rfl) (by rfl) (by rfl)).toB) (fun _ _ => (by rfl))).toB R_str.toB (by rfl))) (R_bin Op_add R_int.toB (R_name (i := 0) (by rfl) (by rfl) (by rfl) (by rfl) (by rfl)).toB) (fun _ _ => (by rfl))).toB) (fun env _ => (by rfl)))
  (S_cons (S_assign (i := 8) (by rfl) (by rfl) (R_bin Op_add (R_name (i := 3) (by rfl) (by rfl) (by rfl) (by rfl) (by rfl)).toB (R_listcomp (Γ' := [("n", .loc), ("taken", .ro)]) (cap := [none, some 3]) (t := (.one 0)) (by decide) (I_seq (R_name (i := 7) (by rfl) (by rfl) (by rfl) (by rfl) (by rfl))) (A_one (i := 0) (by rfl) (by rfl)) (T_one (C_cmp Cmp_notIn (R_name (i := 0) (by rfl) (by rfl) (by rfl) (by rfl) (by rfl)).toB (R_name (i := 1) (by rfl) (by rfl) (by rfl) (by rfl) (by rfl)).toB (by rfl))) (R_name (i := 0) (by rfl) (by rfl) (by rfl) (by rfl) (by rfl)) (fun _ _ => (by rfl))).toB) (fun env _ => (by rfl)))
  (S_cons (S_assign (i := 9) (by rfl) (by rfl) (R_listcomp (Γ' := [("n", .loc), ("mode", .ro)]) (cap := [none, some 5]) (t := (.one 0)) (by decide) (I_range1 G (by rfl) hn_range hv_range R_int (fun _ => (by rfl))) (A_one (i := 0) (by rfl) (by rfl)) (T_one (C_value (R_bin Op_and (R_bin Op_shr (R_name (i := 1) (by rfl) (by rfl) (by rfl) (by rfl) (by rfl)).toB (R_bin Op_sub R_int.toB (R_name (i := 0) (by rfl) (by rfl) (by rfl) (by rfl) (by rfl)).toB).toB).toB R_int.toB).toB (fun _ _ => (by rfl)))) (R_name (i := 0) (by rfl) (by rfl) (by rfl) (by rfl) (by rfl)) (fun _ _ => (by rfl))) (fun env e => (swaps_comp e _ _ _ _ _ _).trans (by rfl)))
  (S_cons (S_assign_used (i := 10) (by rfl) (by rfl) (by rfl) (Γ' := [("tree", .loc), ("told", .ro)]) (cap := [none, some 9]) (t := (.one 0)) (by decide) (I_seq (R_name (i := 2) (by rfl) (by rfl) (by rfl) (by rfl) (by rfl))) (A_one (i := 0) (by rfl) (by rfl)) (T_one (C_cmp Cmp_eq (R_listcomp (Γ' := [("n", .loc), ("tree", .ro)]) (cap := [none, some 0]) (t := (.one 0)) (by decide) (I_seq (R_name (i := 1) (by rfl) (by rfl) (by rfl) (by rfl) (by rfl))) (A_one (i := 0) (by rfl) (by rfl)) (T_one (C_cmp Cmp_notIn (R_name (i := 0) (by rfl) (by rfl) (by rfl) (by rfl) (by rfl)).toB (R_name (i := 1) (by rfl) (by rfl) (by rfl) (by rfl) (by rfl)).toB (by rfl))) (R_name (i := 0) (by rfl) (by rfl) (by rfl) (by rfl) (by rfl)) (fun _ _ => (by rfl))).toB (R_list L_nil).toB (by rfl))) (R_name (i := 0) (by rfl) (by rfl) (by rfl) (by rfl) (by rfl)) (fun _ _ => (by rfl)))
  (S_cons (S_if (C_cmp Cmp_ne (R_cmp Cmp_ne (R_call G (by rfl) hv__law_grown ho__law_grown hd__law_grown hc__law_grown (L_cons (R_listcomp (Γ' := [("n", .loc), ("claims", .ro)]) (cap := [none, some 1]) (t := (.one 0)) (by decide) (I_seq (R_name (i := 8) (by rfl) (by rfl) (by rfl) (by rfl) (by rfl))) (A_one (i := 0) (by rfl) (by rfl)) T_nil (R_item (R_name (i := 1) (by rfl) (by rfl) (by rfl) (by rfl) (by rfl)).toB (R_name (i := 0) (by rfl) (by rfl) (by rfl) (by rfl) (by rfl)) (fun _ _ => (by rfl))) (fun _ _ => (by rfl))) (L_cons (R_list (L_cons R_int (L_cons R_int (L_cons R_int (L_cons R_int L_nil (fun _ => (by rfl))) (fun _ => (by rfl))) (fun _ => (by rfl))) (fun _ => (by rfl)))) (L_cons R_str L_nil (fun _ => (by rfl))) (fun _ => (by rfl))) (fun _ => (by rfl))) (fun _ => (by rfl)) (fun _ => (by rfl))).toB (R_list L_nil).toB (by rfl)).toB (R_cmp Cmp_ne (R_name (i := 10) (by rfl) (by rfl) (by rfl) (by rfl) (by rfl)).toB (R_list L_nil).toB (by rfl)).toB (by rfl)) (S_cons (S_return R_bool)
  S_nil) S_nil)
  (S_cons (S_if (C_cmp Cmp_ne (R_name (i := 10) (by rfl) (by rfl) (by rfl) (by rfl) (by rfl)).toB (R_list L_nil).toB (by rfl)) (S_cons (S_assign (i := 3) (by rfl) (by rfl) (R_name (i := 8) (by rfl) (by rfl) (by rfl) (by rfl) (by rfl)) (fun env _ => (by rfl)))
  (S_cons (S_assign (i := 2) (by rfl) (by rfl) (R_name (i := 10) (by rfl) (by rfl) (by rfl) (by rfl) (by rfl)) (fun env _ => (by rfl)))
  S_nil)) S_nil)
  S_nil))))))))) S_nil (fun _ _ => (by rfl)))
  (S_cons (S_assign (i := 11) (by rfl) (by rfl) (R_listcomp (Γ' := [("leaf", .loc), ("way", .loc)]) (cap := [none, none]) (t := (.tup [0, 1])) (by decide) (I_seq (R_sortedL G (by rfl) hn_sorted hv_sorted (R_call G (by rfl) hv__law_grown ho__law_grown hd__law_grown hc__law_grown (L_cons (R_listcomp (Γ' := [("n", .loc), ("claims", .ro)]) (cap := [none, some 1]) (t := (.one 0)) (by decide) (I_seq (R_name (i := 3) (by rfl) (by rfl) (by rfl) (by rfl) (by rfl))) (A_one (i := 0) (by rfl) (by rfl)) T_nil (R_item (R_name (i := 1) (by rfl) (by rfl) (by rfl) (by rfl) (by rfl)).toB (R_name (i := 0) (by rfl) (by rfl) (by rfl) (by rfl) (by rfl)) (fun _ _ => (by rfl))) (fun _ _ => (by rfl))) (L_cons (R_list (L_cons R_int (L_cons R_int (L_cons R_int (L_cons R_int L_nil (fun _ => (by rfl))) (fun _ => (by rfl))) (fun _ => (by rfl))) (fun _ => (by rfl)))) (L_cons R_str L_nil (fun _ => (by rfl))) (fun _ => (by rfl))) (fun _ => (by rfl))) (fun _ => (by rfl)) (fun _ => (by rfl))) (fun _ => (by rfl)))) (A_tup (As_cons (i := 0) (by rfl) (by rfl) (As_cons (i := 1) (by rfl) (by rfl) As_nil)) (fun _ => (by rfl)) (fun _ => (by rfl))) T_nil (R_name (i := 1) (by rfl) (by rfl) (by rfl) (by rfl) (by rfl)) (fun _ _ => (by rfl))) (fun env e => (swaps_comp e _ _ _ _ _ _).trans (by rfl)))
  (S_cons (S_if (C_cmp Cmp_ne (R_sortedS G (by rfl) hn_sorted hv_sorted (R_joinDD G (by rfl) hv__deduplicate ho__deduplicate hd__deduplicate hc__deduplicate R_str (R_listcomp (Γ' := [("way", .loc)]) (cap := [none]) (t := (.one 0)) (by decide) (I_seq (R_name (i := 11) (by rfl) (by rfl) (by rfl) (by rfl) (by rfl))) (A_one (i := 0) (by rfl) (by rfl)) T_nil (R_item (R_smeth M_split PySem.F.slot_str_split PySem.F.type_str_split (R_name (i := 0) (by rfl) (by rfl) (by rfl) (by rfl) (by rfl)) R_str.toB (fun _ => ⟨_, (by rfl)⟩) (fun _ => (by rfl))).toB R_int (fun _ _ => (by rfl))) (fun _ _ => (by rfl))) (fun _ => ⟨_, (by rfl)⟩) (fun _ => (by rfl)) (fun _ => (by rfl))) (fun _ => (by rfl))).toB (R_list (L_cons R_str (L_cons R_str (L_cons R_str (L_cons R_str L_nil (fun _ => (by rfl))) (fun _ => (by rfl))) (fun _ => (by rfl))) (fun _ => (by rfl)))).toB (by rfl)) (S_cons (S_return R_bool)
  S_nil) S_nil)
  (S_cons (S_assign (i := 12) (by rfl) (by rfl) (R_listcomp (Γ' := [("one", .loc), ("ways", .ro)]) (cap := [none, some 11]) (t := (.one 0)) (by decide) (I_seq (R_name (i := 11) (by rfl) (by rfl) (by rfl) (by rfl) (by rfl))) (A_one (i := 0) (by rfl) (by rfl)) T_nil (R_listcomp (Γ' := [("other", .loc), ("one", .ro)]) (cap := [none, some 0]) (t := (.one 0)) (by decide) (I_seq (R_name (i := 1) (by rfl) (by rfl) (by rfl) (by rfl) (by rfl))) (A_one (i := 0) (by rfl) (by rfl)) T_nil (R_len G (by rfl) hn_len hv_len (R_call G (by rfl) hv_commonpath ho_commonpath hd_commonpath hc_commonpath (L_cons (R_list (L_cons (R_name (i := 1) (by rfl) (by rfl) (by rfl) (by rfl) (by rfl)) (L_cons (R_name (i := 0) (by rfl) (by rfl) (by rfl) (by rfl) (by rfl)) L_nil (fun _ => (by rfl))) (fun _ => (by rfl)))) L_nil (fun _ => (by rfl))) (fun _ => (by rfl)) (fun _ => (by rfl))).toB (fun _ => (by rfl))) (fun _ _ => (by rfl))) (fun _ _ => (by rfl))) (fun env e => (swaps_comp e _ _ _ _ _ _).trans (by rfl)))
  (S_cons (S_assign (i := 13) (by rfl) (by rfl) (R_listcomp (Γ' := [("n", .loc), ("claims", .ro), ("depth", .ro)]) (cap := [none, some 1, some 12]) (t := (.one 0)) (by decide) (I_range1 G (by rfl) hn_range hv_range R_int (fun _ => (by rfl))) (A_one (i := 0) (by rfl) (by rfl)) (T_one (C_cmp Cmp_gt (R_item (R_item (R_name (i := 2) (by rfl) (by rfl) (by rfl) (by rfl) (by rfl)).toB (R_item (R_item (R_name (i := 1) (by rfl) (by rfl) (by rfl) (by rfl) (by rfl)).toB (R_name (i := 0) (by rfl) (by rfl) (by rfl) (by rfl) (by rfl)) (fun _ _ => (by rfl))).toB R_int (fun _ _ => (by rfl))) (fun _ _ => (by rfl))).toB (R_item (R_item (R_name (i := 1) (by rfl) (by rfl) (by rfl) (by rfl) (by rfl)).toB (R_name (i := 0) (by rfl) (by rfl) (by rfl) (by rfl) (by rfl)) (fun _ _ => (by rfl))).toB R_int (fun _ _ => (by rfl))) (fun _ _ => (by rfl))).toB (R_item (R_item (R_name (i := 2) (by rfl) (by rfl) (by rfl) (by rfl) (by rfl)).toB (R_item (R_item (R_name (i := 1) (by rfl) (by rfl) (by rfl) (by rfl) (by rfl)).toB (R_name (i := 0) (by rfl) (by rfl) (by rfl) (by rfl) (by rfl)) (fun _ _ => (by rfl))).toB R_int (fun _ _ => (by rfl))) (fun _ _ => (by rfl))).toB (R_item (R_item (R_name (i := 1) (by rfl) (by rfl) (by rfl) (by rfl) (by rfl)).toB (R_name (i := 0) (by rfl) (by rfl) (by rfl) (by rfl) (by rfl)) (fun _ _ => (by rfl))).toB R_int (fun _ _ => (by rfl))) (fun _ _ => (by rfl))).toB (by rfl))) (R_name (i := 0) (by rfl) (by rfl) (by rfl) (by rfl) (by rfl)) (fun _ _ => (by rfl))) (fun env e => (swaps_comp e _ _ _ _ _ _).trans (by rfl)))
  (S_cons (S_if (C_bool (All_or_cons (C_cmp Cmp_ne (R_listcomp (Γ' := [("n", .loc), ("shown", .ro)]) (cap := [none, some 13]) (t := (.one 0)) (by decide) (I_seq (R_name (i := 3) (by rfl) (by rfl) (by rfl) (by rfl) (by rfl))) (A_one (i := 0) (by rfl) (by rfl)) (T_one (C_cmp Cmp_notIn (R_name (i := 0) (by rfl) (by rfl) (by rfl) (by rfl) (by rfl)).toB (R_name (i := 1) (by rfl) (by rfl) (by rfl) (by rfl) (by rfl)).toB (by rfl))) (R_name (i := 0) (by rfl) (by rfl) (by rfl) (by rfl) (by rfl)) (fun _ _ => (by rfl))).toB (R_list L_nil).toB (by rfl)) (All_or_cons (C_cmp Cmp_eq (R_listcomp (Γ' := [("tree", .loc), ("shown", .ro)]) (cap := [none, some 13]) (t := (.one 0)) (by decide) (I_seq (R_name (i := 2) (by rfl) (by rfl) (by rfl) (by rfl) (by rfl))) (A_one (i := 0) (by rfl) (by rfl)) (T_one (C_cmp Cmp_eq (R_listcomp (Γ' := [("n", .loc), ("tree", .ro)]) (cap := [none, some 0]) (t := (.one 0)) (by decide) (I_seq (R_name (i := 1) (by rfl) (by rfl) (by rfl) (by rfl) (by rfl))) (A_one (i := 0) (by rfl) (by rfl)) (T_one (C_cmp Cmp_notIn (R_name (i := 0) (by rfl) (by rfl) (by rfl) (by rfl) (by rfl)).toB (R_name (i := 1) (by rfl) (by rfl) (by rfl) (by rfl) (by rfl)).toB (by rfl))) (R_name (i := 0) (by rfl) (by rfl) (by rfl) (by rfl) (by rfl)) (fun _ _ => (by rfl))).toB (R_list L_nil).toB (by rfl))) (R_name (i := 0) (by rfl) (by rfl) (by rfl) (by rfl) (by rfl)) (fun _ _ => (by rfl))).toB (R_list L_nil).toB (by rfl)) All_or_nil))) (S_cons (S_return R_bool)
  S_nil) S_nil)
  (S_cons (S_for (I_seq (R_listcomp (Γ' := [("n", .loc), ("shown", .ro)]) (cap := [none, some 13]) (t := (.one 0)) (by decide) (I_range1 G (by rfl) hn_range hv_range R_int (fun _ => (by rfl))) (A_one (i := 0) (by rfl) (by rfl)) (T_one (C_cmp Cmp_notIn (R_name (i := 0) (by rfl) (by rfl) (by rfl) (by rfl) (by rfl)).toB (R_name (i := 1) (by rfl) (by rfl) (by rfl) (by rfl) (by rfl)).toB (by rfl))) (R_name (i := 0) (by rfl) (by rfl) (by rfl) (by rfl) (by rfl)) (fun _ _ => (by rfl)))) (A_name (i := 14) (by rfl) (by rfl)) (S_cons (S_assign (i := 15) (by rfl) (by rfl) (R_call G (by rfl) hv__law_grown ho__law_grown hd__law_grown hc__law_grown (L_cons (R_listcomp (Γ' := [("k", .loc), ("claims", .ro)]) (cap := [none, some 1]) (t := (.one 0)) (by decide) (I_seq (R_bin Op_add (R_name (i := 3) (by rfl) (by rfl) (by rfl) (by rfl) (by rfl)).toB (R_list (L_cons (R_name (i := 14) (by rfl) (by rfl) (by rfl) (by rfl) (by rfl)) L_nil (fun _ => (by rfl)))).toB)) (A_one (i := 0) (by rfl) (by rfl)) T_nil (R_item (R_name (i := 1) (by rfl) (by rfl) (by rfl) (by rfl) (by rfl)).toB (R_name (i := 0) (by rfl) (by rfl) (by rfl) (by rfl) (by rfl)) (fun _ _ => (by rfl))) (fun _ _ => (by rfl))) (L_cons (R_list (L_cons R_int (L_cons R_int (L_cons R_int (L_cons R_int L_nil (fun _ => (by rfl))) (fun _ => (by rfl))) (fun _ => (by rfl))) (fun _ => (by rfl)))) (L_cons R_str L_nil (fun _ => (by rfl))) (fun _ => (by rfl))) (fun _ => (by rfl))) (fun _ => (by rfl)) (fun _ => (by rfl))) (fun env _ => (by rfl)))
  (S_cons (S_if (C_cmp Cmp_ne (R_cmp Cmp_ne (R_name (i := 15) (by rfl) (by rfl) (by rfl) (by rfl) (by rfl)).toB (R_list L_nil).toB (by rfl)).toB (R_cmp Cmp_ne (R_listcomp (Γ' := [("tree", .loc), ("n", .ro)]) (cap := [none, some 14]) (t := (.one 0)) (by decide) (I_seq (R_name (i := 2) (by rfl) (by rfl) (by rfl) (by rfl) (by rfl))) (A_one (i := 0) (by rfl) (by rfl)) (T_one (C_cmp Cmp_in (R_name (i := 1) (by rfl) (by rfl) (by rfl) (by rfl) (by rfl)).toB (R_name (i := 0) (by rfl) (by rfl) (by rfl) (by rfl) (by rfl)).toB (by rfl))) (R_name (i := 0) (by rfl) (by rfl) (by rfl) (by rfl) (by rfl)) (fun _ _ => (by rfl))).toB (R_list L_nil).toB (by rfl)).toB (by rfl)) (S_cons (S_return R_bool)
  S_nil) S_nil)
  S_nil)) S_nil (fun _ _ => (by rfl)))
  (S_cons (S_return R_bool)
  S_nil)))))))))))
end
end Mine



namespace Mine
/-! numbers and lists of numbers as data -/
noncomputable def eN (n : Nat) : PyData := .int (n : Int)
noncomputable def eL (l : List Nat) : PyData := .list (l.map eN)
noncomputable def eLL (l : List (List Nat)) : PyData := .list (l.map eL)
theorem eN_eqv (a b : Nat) : (eN a).eqv (eN b) = decide (a = b) := by
  simp only [eN, PyData.eqv]
  by_cases h : a = b
  · subst h; simp
  · simp [h]; omega
theorem eqvAll_eN : ∀ a b : List Nat, PyData.eqvAll (a.map eN) (b.map eN) = decide (a = b)
  | [], [] => by simp [PyData.eqvAll]
  | [], _ :: _ => by simp [PyData.eqvAll]
  | _ :: _, [] => by simp [PyData.eqvAll]
  | x :: a, y :: b => by
    simp only [List.map_cons, PyData.eqvAll, eN_eqv, eqvAll_eN a b, List.cons.injEq, Bool.decide_and]
theorem eL_eqv (a b : List Nat) : (eL a).eqv (eL b) = decide (a = b) := by
  simp only [eL, PyData.eqv, eqvAll_eN]
theorem lay_eN : ∀ l : List Nat, PyData.canLayAll0 (l.map eN) = true
  | [] => by simp [PyData.canLayAll0]
  | x :: l => by simp [PyData.canLayAll0, lay_eN l, eN, PyData.canLay0]
theorem dep_eN : ∀ l : List Nat, PyData.depthAll (l.map eN) = 0
  | [] => by simp [PyData.depthAll]
  | x :: l => by simp [PyData.depthAll, dep_eN l, eN, PyData.depth]
theorem shaped_eN (n : Nat) : SeqAt.shaped (eN n) = true := by simp [SeqAt.shaped, eN, PyData.canLay0, PyData.depth]
theorem shaped_eL (l : List Nat) : SeqAt.shaped (eL l) = true := by simp [SeqAt.shaped, eL, PyData.canLay0, PyData.depth, lay_eN, dep_eN]
theorem lay_eL : ∀ l : List (List Nat), PyData.canLayAll0 (l.map eL) = true
  | [] => by simp [PyData.canLayAll0]
  | x :: l => by simp [PyData.canLayAll0, lay_eL l, eL, PyData.canLay0, lay_eN]
theorem dep_eL : ∀ l : List (List Nat), PyData.depthAll (l.map eL) ≤ 1
  | [] => by simp [PyData.depthAll]
  | x :: l => by
    have := dep_eL l
    simp only [List.map_cons, PyData.depthAll, eL, PyData.depth, dep_eN]
    omega
theorem shaped_eLL (l : List (List Nat)) : SeqAt.shaped (eLL l) = true := by
  have := dep_eL l
  simp only [SeqAt.shaped, eLL, PyData.canLay0, PyData.depth, lay_eL, Bool.true_and, decide_eq_true_eq]
  omega
theorem any_eN (n : Nat) : ∀ l : List Nat, (l.map eN).any (fun y => y.eqv (eN n)) = l.contains n
  | [] => rfl
  | x :: l => by
    rw [List.map_cons, List.any_cons, any_eN n l, eN_eqv, List.contains_cons]
    by_cases h : x = n
    · subst h; simp
    · have : (n == x) = false := by simpa using fun e => h e.symm
      simp [h, this]
theorem inC_eN (n : Nat) (l : List Nat) : inC (eN n) (eL l) = some (l.contains n) := by
  show (if (SeqAt.shaped (eL l) && SeqAt.shaped (eN n)) = true then some ((l.map eN).any fun y => y.eqv (eN n)) else none) = _
  rw [shaped_eL, shaped_eN, any_eN]; rfl
theorem notInC_eN (n : Nat) (l : List Nat) : notInC (eN n) (eL l) = some (!l.contains n) := by
  show (if (SeqAt.shaped (eL l) && SeqAt.shaped (eN n)) = true then some (!(l.map eN).any fun y => y.eqv (eN n)) else none) = _
  rw [shaped_eL, shaped_eN, any_eN]; rfl
theorem eqC_eL (a b : List Nat) : eqC (eL a) (eL b) = some (decide (a = b)) := by simp [eqC, shaped_eL, eL_eqv]
theorem neC_eL (a b : List Nat) : neC (eL a) (eL b) = some (!decide (a = b)) := by simp [neC, shaped_eL, eL_eqv]
theorem neC_eLL_nil (l : List (List Nat)) : neC (eLL l) (.list []) = some (!l.isEmpty) := by
  have h1 := shaped_eLL l
  have h2 : SeqAt.shaped (.list []) = true := shaped_eL []
  simp only [neC, h1, h2, Bool.and_self, if_true]
  cases l <;> simp [eLL, PyData.eqv, PyData.eqvAll]
theorem neC_bool (a b : Bool) : neC (.bool a) (.bool b) = some (a != b) := by
  simp only [neC, SeqAt.shaped, PyData.canLay0, PyData.depth, PyData.eqv]
  cases a <;> cases b <;> rfl
theorem eqC_eN (a b : Nat) : eqC (eN a) (eN b) = some (decide (a = b)) := by simp [eqC, shaped_eN, eN_eqv]

theorem itemD_eL {l : List PyData} {n : Nat} (h : n < l.length) (hl : l.length ≤ 100000) : itemD (.list l) (eN n) = some (l[n]) := by
  have h2 : (0 : Int) ≤ (n : Int) ∧ (n : Int) < 100000 := by omega
  simp only [itemD, eN, h2, and_self, if_true, Int.toNat_natCast]
  exact List.getElem?_eq_getElem h

/-! comprehensions -/
theorem compGo_filter {α : Type} {e : α → PyData} {ρ₀ : Rho} {t : Tgt} {ft : Rho → Option Bool} {fe : Rho → Option PyData} (p : α → Bool) {β : Type} (v : α → β) (e' : β → PyData) :
    ∀ (l : List α), (∀ x ∈ l, ∃ ρ₁, bindT t (e x) ρ₀ = some ρ₁ ∧ ft ρ₁ = some (p x) ∧ (p x = true → fe ρ₁ = some (e' (v x)))) → compGo ρ₀ t ft fe (l.map e) = some (((l.filter p).map v).map e')
  | [], _ => rfl
  | x :: l, h => by
    obtain ⟨ρ₁, h1, h2, h3⟩ := h x (.head _)
    have ih := compGo_filter p v e' l fun y hy => h y (.tail _ hy)
    rw [List.map_cons]
    unfold compGo
    rw [h1]
    dsimp only
    rw [h2]
    cases hp : p x with
    | false =>
      dsimp only
      rw [ih, List.filter_cons, hp]; rfl
    | true =>
      dsimp only
      rw [h3 hp, ih, List.filter_cons, hp]; rfl
theorem compGo_map {α : Type} {e : α → PyData} {ρ₀ : Rho} {t : Tgt} {ft : Rho → Option Bool} {fe : Rho → Option PyData} {β : Type} (v : α → β) (e' : β → PyData) (l : List α)
    (h : ∀ x ∈ l, ∃ ρ₁, bindT t (e x) ρ₀ = some ρ₁ ∧ ft ρ₁ = some true ∧ fe ρ₁ = some (e' (v x))) : compGo ρ₀ t ft fe (l.map e) = some ((l.map v).map e') := by
  have := compGo_filter (e := e) (ρ₀ := ρ₀) (t := t) (ft := ft) (fe := fe) (fun _ => true) v e' l fun x hx => let ⟨ρ₁, a, b, c⟩ := h x hx; ⟨ρ₁, a, b, fun _ => c⟩
  rw [this, List.filter_eq_self.mpr (fun _ _ => rfl)]
theorem compD_of {fi : Rho → Option (List PyData)} {cap : List (Option Nat)} {t : Tgt} {ft : Rho → Option Bool} {fe : Rho → Option PyData} {ρ : Rho} {ds l : List PyData} (h : fi ρ = some ds) (hl : ds.length ≤ lim) (h2 : compGo (mkRho cap ρ) t ft fe ds = some l) :
    compD fi cap t ft fe ρ = some (.list l) := by
  unfold compD compL
  rw [h]
  dsimp only
  rw [if_pos hl, h2]; rfl
/-! statements -/
theorem seqS_next {f g : Rho → Option Out} {ρ ρ' : Rho} (h : f ρ = some (.next ρ')) : seqS f g ρ = g ρ' := by unfold seqS; rw [h]
theorem seqS_ret {f g : Rho → Option Out} {ρ : Rho} {d : PyData} (h : f ρ = some (.ret d)) : seqS f g ρ = some (.ret d) := by unfold seqS; rw [h]
theorem asg_of {f : Rho → Option PyData} {i : Nat} {ρ : Rho} {d : PyData} (h : f ρ = some d) : asg f (setN i) ρ = some (.next (rset ρ i d)) := by unfold asg; rw [h]; rfl
theorem ifD_true {α : Type} {c : Rho → Option Bool} {f g : Rho → Option α} {ρ : Rho} (h : c ρ = some true) : ifD c f g ρ = f ρ := by unfold ifD; rw [h]
theorem ifD_false {α : Type} {c : Rho → Option Bool} {f g : Rho → Option α} {ρ : Rho} (h : c ρ = some false) : ifD c f g ρ = g ρ := by unfold ifD; rw [h]
theorem bin_of {F : PyData → PyData → Option PyData} {f g : Rho → Option PyData} {ρ : Rho} {a b : PyData} (h : f ρ = some a) (h' : g ρ = some b) : bin F f g ρ = F a b := by unfold bin; rw [h, h']
theorem cmp_of {F : PyData → PyData → Option Bool} {f g : Rho → Option PyData} {ρ : Rho} {a b : PyData} (h : f ρ = some a) (h' : g ρ = some b) : cmp F f g ρ = F a b := by unfold cmp; rw [h, h']
end Mine


namespace Mine
/-! what `_law_grown` puts together -/
noncomputable def mergeP (near : List (List Nat)) (o t : Nat) : List (List Nat) :=
  (dedup [] (near.getD o [] ++ near.getD t [])).foldl (fun nr x => nr.set x (dedup [] (near.getD o [] ++ near.getD t []))) near
noncomputable def stepP (leaves : List Nat) (near : List (List Nat)) (c : Nat × Nat × Nat) : List (List Nat) :=
  if leaves.contains c.1 && (leaves.contains c.2.1 && leaves.contains c.2.2) then mergeP near c.1 c.2.1 else near
noncomputable def eC (c : Nat × Nat × Nat) : PyData := .list [eN c.1, eN c.2.1, eN c.2.2]
noncomputable def near0 : List (List Nat) := [[0], [1], [2], [3]]
noncomputable def nearP (leaves : List Nat) (cl : List (Nat × Nat × Nat)) : List (List Nat) := cl.foldl (stepP leaves) near0
structure NearOk (near : List (List Nat)) : Prop where
  len : near.length = 4
  low : ∀ l ∈ near, ∀ x ∈ l, x < 4
  nd : ∀ l ∈ near, l.Nodup
theorem dedup_mem {K : Type} [DecidableEq K] : ∀ (l acc : List K) (x : K), x ∈ dedup acc l ↔ x ∈ acc ∨ x ∈ l
  | [], acc, x => by simp [dedup]
  | k :: l, acc, x => by
    unfold dedup
    rw [dedup_mem l]
    by_cases h : k ∈ acc
    · rw [if_pos h]
      constructor
      · rintro (a | a)
        · exact .inl a
        · exact .inr (.tail _ a)
      · rintro (a | a)
        · exact .inl a
        · rcases List.mem_cons.mp a with rfl | a
          · exact .inl h
          · exact .inr a
    · rw [if_neg h]
      simp only [List.mem_append, List.mem_cons]
      simp only [List.not_mem_nil, or_false, or_assoc]
theorem dedup_nodup {K : Type} [DecidableEq K] : ∀ (l acc : List K), acc.Nodup → (dedup acc l).Nodup
  | [], acc, h => h
  | k :: l, acc, h => by
    unfold dedup
    refine dedup_nodup l _ ?_
    split
    · exact h
    · rename_i hk
      refine List.nodup_append.mpr ⟨h, by simp, fun a ha b hb => ?_⟩
      rw [List.mem_singleton.mp hb]
      exact fun e => hk (e ▸ ha)
theorem low_length {l : List Nat} (h : l.Nodup) (hl : ∀ x ∈ l, x < 4) : l.length ≤ 4 := by
  have := List.Nodup.length_le_of_subset h (fun x hx => List.mem_range.mpr (hl x hx) : l ⊆ List.range 4)
  simpa using this
theorem mem_getD {near : List (List Nat)} {i : Nat} {x : Nat} (h : x ∈ near.getD i []) : ∃ l ∈ near, x ∈ l := by
  rw [List.getD_eq_getElem?_getD] at h
  cases e : near[i]? with
  | none => rw [e] at h; simp at h
  | some l => rw [e] at h; exact ⟨l, List.mem_of_getElem? e, by simpa using h⟩
theorem NearOk.merge {near : List (List Nat)} (N : NearOk near) (o t : Nat) : NearOk (mergeP near o t) := by
  unfold mergeP
  generalize hb : dedup [] (near.getD o [] ++ near.getD t []) = both
  have hlow : ∀ x ∈ both, x < 4 := by
    intro x hx
    rw [← hb, dedup_mem] at hx
    rcases hx with hx | hx
    · cases hx
    · rcases List.mem_append.mp hx with hx | hx <;> (obtain ⟨l, hl, hx⟩ := mem_getD hx; exact N.low l hl x hx)
  have hnd : both.Nodup := by rw [← hb]; exact dedup_nodup _ _ List.nodup_nil
  have key : ∀ (l : List Nat) (nr : List (List Nat)), NearOk nr → NearOk (l.foldl (fun nr x => nr.set x both) nr) := by
    intro l
    induction l with
    | nil => intro nr h; exact h
    | cons x l ih =>
      intro nr h
      refine ih _ ⟨by rw [List.length_set]; exact h.len, fun m hm y hy => ?_, fun m hm => ?_⟩
      · rcases List.mem_or_eq_of_mem_set hm with hm | rfl
        · exact h.low m hm y hy
        · exact hlow y hy
      · rcases List.mem_or_eq_of_mem_set hm with hm | rfl
        · exact h.nd m hm
        · exact hnd
  exact key both near N
theorem NearOk.step {near : List (List Nat)} (N : NearOk near) (leaves : List Nat) (c : Nat × Nat × Nat) : NearOk (stepP leaves near c) := by
  unfold stepP; split
  · exact N.merge _ _
  · exact N
theorem NearOk.start : NearOk near0 := ⟨rfl, by decide, by decide⟩
theorem putAt_set (d : PyData) : ∀ (l : List PyData) (n : Nat), putAt d l n = l.set n d
  | [], _ => rfl
  | _ :: _, 0 => rfl
  | x :: r, n + 1 => congrArg (x :: ·) (putAt_set d r n)
theorem dedup_map (f : Nat → Int) (hf : ∀ a b, f a = f b → a = b) : ∀ (l acc : List Nat), dedup (acc.map f) (l.map f) = (dedup acc l).map f
  | [], acc => rfl
  | k :: l, acc => by
    rw [List.map_cons]
    unfold dedup
    have : f k ∈ acc.map f ↔ k ∈ acc := ⟨fun h => by obtain ⟨a, ha, e⟩ := List.mem_map.mp h; exact hf _ _ e ▸ ha, fun h => List.mem_map.mpr ⟨k, h, rfl⟩⟩
    by_cases h : k ∈ acc
    · rw [if_pos (this.mpr h), if_pos h, dedup_map f hf l acc]
    · rw [if_neg (fun q => h (this.mp q)), if_neg h, ← dedup_map f hf l (acc ++ [k])]; simp
noncomputable def nI (n : Nat) : Int := n
theorem intsOf_eN : ∀ l : List Nat, intsOf (l.map eN) = some (l.map nI)
  | [] => rfl
  | x :: l => by
    show (match intsOf (l.map eN) with | some m => some ((x : Int) :: m) | none => none) = _
    rw [intsOf_eN l]; rfl

variable {gr : List PyData → Option PyData}
/-- the frame of `_law_grown` -/
noncomputable def RG (C L H : PyData) (near : List (List Nat)) (x4 x5 x6 x7 x8 x9 x10 x11 x12 x13 : Option PyData) : Rho := [some C, some L, some H, some (eLL near), x4, x5, x6, x7, x8, x9, x10, x11, x12, x13]
theorem inner_loop {C L H : PyData} {both : List Nat} {x4 x5 x6 x7 x10 x11 x12 x13 : Option PyData} : ∀ (m : List Nat), (∀ x ∈ m, x < 4) → ∀ (nr : List (List Nat)) (y9 : Option PyData), nr.length = 4 →
    ∃ x9', loopD (setN 9) (seqS (dG_3 gr) (fun ρ => some (.next ρ))) (fun ρ => some (.next ρ)) (m.map eN) (RG C L H nr x4 x5 x6 x7 (some (eL both)) y9 x10 x11 x12 x13) =
      some (.next (RG C L H (m.foldl (fun nr x => nr.set x both) nr) x4 x5 x6 x7 (some (eL both)) x9' x10 x11 x12 x13)) := by
  intro m
  induction m with
  | nil => intro _ nr y9 _; exact ⟨y9, rfl⟩
  | cons y m ihm =>
    intro hm nr y9 hlen
    have hy := hm y (.head _)
    have e3 : dG_3 gr (RG C L H nr x4 x5 x6 x7 (some (eL both)) (some (eN y)) x10 x11 x12 x13) = some (.next (RG C L H (nr.set y both) x4 x5 x6 x7 (some (eL both)) (some (eN y)) x10 x11 x12 x13)) := by
      show (if 0 ≤ (y : Int) ∧ (y : Int) < ((nr.map eL).length : Int) ∧ (nr.map eL).length ≤ lim then some (Out.next (rset _ 3 (.list (putAt (eL both) (nr.map eL) (y : Int).toNat)))) else none) = _
      rw [if_pos ⟨by omega, by rw [List.length_map, hlen]; omega, by rw [List.length_map, hlen]; decide⟩, putAt_set, Int.toNat_natCast, ← List.map_set]
      rfl
    obtain ⟨x9', h⟩ := ihm (fun z hz => hm z (.tail _ hz)) (nr.set y both) (some (eN y)) (by rw [List.length_set]; exact hlen)
    refine ⟨x9', ?_⟩
    rw [List.map_cons]
    unfold loopD
    show (match seqS (dG_3 gr) (fun ρ => some (.next ρ)) (RG C L H nr x4 x5 x6 x7 (some (eL both)) (some (eN y)) x10 x11 x12 x13) with | some (.next ρ₂) => _ | some (.cont ρ₂) => _ | some (.brk ρ₂) => _ | some (.ret d) => _ | none => _) = _
    rw [seqS_next e3]
    exact h
theorem getD_at {near : List (List Nat)} {i : Nat} (h : i < near.length) : near.getD i [] = near[i] := by simp [List.getD_eq_getElem?_getD, h]
theorem both_is {near : List (List Nat)} (N : NearOk near) {o t : Nat} (ho : o < 4) (ht : t < 4) {C L H : PyData} {x4 x7 x8 x9 x10 x11 x12 x13 : Option PyData} :
    dG_1 gr (RG C L H near x4 (some (eN o)) (some (eN t)) x7 x8 x9 x10 x11 x12 x13) = some (eL (dedup [] (near.getD o [] ++ near.getD t []))) := by
  have hl := N.len
  have ho' : o < near.length := by omega
  have ht' : t < near.length := by omega
  have len : ∀ i, i < near.length → (near.getD i []).length ≤ 4 := fun i hi => by
    rw [getD_at hi]
    exact low_length (N.nd _ (List.getElem_mem hi)) (N.low _ (List.getElem_mem hi))
  have i1 : itemD (eLL near) (eN o) = some (eL (near.getD o [])) := by
    rw [eLL, itemD_eL (by simpa using ho') (by simp [hl])]
    rw [getD_at ho', List.getElem_map]
  have i2 : itemD (eLL near) (eN t) = some (eL (near.getD t [])) := by
    rw [eLL, itemD_eL (by simpa using ht') (by simp [hl])]
    rw [getD_at ht', List.getElem_map]
  have h1 := len o ho'
  have h2 := len t ht'
  have ad : addD (eL (near.getD o [])) (eL (near.getD t [])) = some (.list ((near.getD o [] ++ near.getD t []).map eN)) := by
    show (if _ then _ else _) = _
    rw [if_pos (by simp only [List.length_map]; unfold lim; omega), List.map_append]
  unfold dG_1 listDD
  have b : bin addD (bin itemD (fun ρ => rget ρ 3) (fun ρ => rget ρ 5)) (bin itemD (fun ρ => rget ρ 3) (fun ρ => rget ρ 6)) (RG C L H near x4 (some (eN o)) (some (eN t)) x7 x8 x9 x10 x11 x12 x13) = some (.list ((near.getD o [] ++ near.getD t []).map eN)) := by
    rw [bin_of (a := eL (near.getD o [])) (b := eL (near.getD t []))]
    · exact ad
    · rw [bin_of (a := eLL near) (b := eN o) rfl rfl]; exact i1
    · rw [bin_of (a := eLL near) (b := eN t) rfl rfl]; exact i2
  rw [b]
  dsimp only
  rw [if_pos (by simp only [List.length_map, List.length_append]; unfold lim; omega), intsOf_eN]
  dsimp only
  have := dedup_map nI (fun a b h => by unfold nI at h; omega) (near.getD o [] ++ near.getD t []) []
  rw [List.map_nil] at this
  rw [this, List.map_map]
  rfl
theorem body_step {near : List (List Nat)} (N : NearOk near) {c : Nat × Nat × Nat} (h1 : c.1 < 4) (h2 : c.2.1 < 4) {C H : PyData} {leaves : List Nat} {x4 x8 x9 x10 x11 x12 x13 : Option PyData} :
    ∃ x8' x9', dG_5 gr (RG C (eL leaves) H near x4 (some (eN c.1)) (some (eN c.2.1)) (some (eN c.2.2)) x8 x9 x10 x11 x12 x13) =
      some (.next (RG C (eL leaves) H (stepP leaves near c) x4 (some (eN c.1)) (some (eN c.2.1)) (some (eN c.2.2)) x8' x9' x10 x11 x12 x13)) := by
  have cond : andC (cmp inC (fun ρ => rget ρ 5) (fun ρ => rget ρ 1)) (andC (cmp inC (fun ρ => rget ρ 6) (fun ρ => rget ρ 1)) (andC (cmp inC (fun ρ => rget ρ 7) (fun ρ => rget ρ 1)) (fun _ => some true)))
      (RG C (eL leaves) H near x4 (some (eN c.1)) (some (eN c.2.1)) (some (eN c.2.2)) x8 x9 x10 x11 x12 x13) = some (leaves.contains c.1 && (leaves.contains c.2.1 && leaves.contains c.2.2)) := by
    unfold andC
    rw [cmp_of (a := eN c.1) (b := eL leaves) rfl rfl, inC_eN]
    cases leaves.contains c.1 with
    | false => rfl
    | true =>
      dsimp only
      rw [cmp_of (a := eN c.2.1) (b := eL leaves) rfl rfl, inC_eN]
      cases leaves.contains c.2.1 with
      | false => rfl
      | true =>
        dsimp only
        rw [cmp_of (a := eN c.2.2) (b := eL leaves) rfl rfl, inC_eN]
        cases leaves.contains c.2.2 <;> rfl
  unfold dG_5 stepP
  cases hc : (leaves.contains c.1 && (leaves.contains c.2.1 && leaves.contains c.2.2)) with
  | false =>
    rw [hc] at cond
    rw [ifD_false cond]
    exact ⟨x8, x9, rfl⟩
  | true =>
    rw [hc] at cond
    rw [ifD_true cond]
    have e2 : dG_2 gr (RG C (eL leaves) H near x4 (some (eN c.1)) (some (eN c.2.1)) (some (eN c.2.2)) x8 x9 x10 x11 x12 x13) =
        some (.next (RG C (eL leaves) H near x4 (some (eN c.1)) (some (eN c.2.1)) (some (eN c.2.2)) (some (eL (dedup [] (near.getD c.1 [] ++ near.getD c.2.1 [])))) x9 x10 x11 x12 x13)) := asg_of (both_is N h1 h2)
    rw [seqS_next e2]
    have hlow : ∀ x ∈ dedup [] (near.getD c.1 [] ++ near.getD c.2.1 []), x < 4 := by
      intro x hx
      rw [dedup_mem] at hx
      rcases hx with hx | hx
      · cases hx
      · rcases List.mem_append.mp hx with hx | hx <;> (obtain ⟨l, hl, hx⟩ := mem_getD hx; exact N.low l hl x hx)
    obtain ⟨x9', h⟩ := inner_loop (gr := gr) (C := C) (L := eL leaves) (H := H) (both := dedup [] (near.getD c.1 [] ++ near.getD c.2.1 [])) (x4 := x4) (x5 := some (eN c.1)) (x6 := some (eN c.2.1)) (x7 := some (eN c.2.2)) (x10 := x10) (x11 := x11) (x12 := x12) (x13 := x13) _ hlow near x9 N.len
    have e4 : dG_4 gr (RG C (eL leaves) H near x4 (some (eN c.1)) (some (eN c.2.1)) (some (eN c.2.2)) (some (eL (dedup [] (near.getD c.1 [] ++ near.getD c.2.1 [])))) x9 x10 x11 x12 x13) = _ := h
    rw [seqS_next e4]
    exact ⟨_, x9', rfl⟩
theorem claims_loop {C H : PyData} {leaves : List Nat} {x4 x10 x11 x12 x13 : Option PyData} : ∀ (cl : List (Nat × Nat × Nat)), (∀ c ∈ cl, c.1 < 4 ∧ c.2.1 < 4) → ∀ (near : List (List Nat)) (x5 x6 x7 x8 x9 : Option PyData), NearOk near →
    ∃ x5' x6' x7' x8' x9', loopD (bindT (.tup [5, 6, 7])) (seqS (dG_5 gr) (fun ρ => some (.next ρ))) (fun ρ => some (.next ρ)) (cl.map eC) (RG C (eL leaves) H near x4 x5 x6 x7 x8 x9 x10 x11 x12 x13) =
      some (.next (RG C (eL leaves) H (cl.foldl (stepP leaves) near) x4 x5' x6' x7' x8' x9' x10 x11 x12 x13)) := by
  intro cl
  induction cl with
  | nil => intro _ near x5 x6 x7 x8 x9 _; exact ⟨x5, x6, x7, x8, x9, rfl⟩
  | cons c cl ih =>
    intro hc near x5 x6 x7 x8 x9 N
    obtain ⟨y8, y9, hb⟩ := body_step (gr := gr) N (c := c) (hc c (.head _)).1 (hc c (.head _)).2 (C := C) (H := H) (leaves := leaves) (x4 := x4) (x8 := x8) (x9 := x9) (x10 := x10) (x11 := x11) (x12 := x12) (x13 := x13)
    obtain ⟨x5', x6', x7', x8', x9', h⟩ := ih (fun d hd => hc d (.tail _ hd)) (stepP leaves near c) (some (eN c.1)) (some (eN c.2.1)) (some (eN c.2.2)) y8 y9 (N.step leaves c)
    refine ⟨x5', x6', x7', x8', x9', ?_⟩
    rw [List.map_cons]
    unfold loopD
    show (match seqS (dG_5 gr) (fun ρ => some (.next ρ)) (RG C (eL leaves) H near x4 (some (eN c.1)) (some (eN c.2.1)) (some (eN c.2.2)) x8 x9 x10 x11 x12 x13) with | some (.next ρ₂) => _ | some (.cont ρ₂) => _ | some (.brk ρ₂) => _ | some (.ret d) => _ | none => _) = _
    rw [seqS_next hb]
    exact h
end Mine


namespace Mine
/-! `_deduplicate_unhashable` of lists of numbers -/
theorem any_eL (x : List Nat) : ∀ l : List (List Nat), (l.map eL).any (fun y => y.eqv (eL x)) = decide (x ∈ l)
  | [] => by simp
  | y :: l => by
    rw [List.map_cons, List.any_cons, any_eL x l, eL_eqv]
    by_cases h : y = x
    · subst h; simp
    · have : ¬ x = y := fun e => h e.symm
      simp [h, this]
theorem notInC_eL (x : List Nat) (l : List (List Nat)) : notInC (eL x) (eLL l) = some (!decide (x ∈ l)) := by
  show (if (SeqAt.shaped (eLL l) && SeqAt.shaped (eL x)) = true then some (!(l.map eL).any fun y => y.eqv (eL x)) else none) = _
  rw [shaped_eLL, shaped_eL, any_eL]; rfl
theorem du_loop (u : Option PyData) : ∀ (l acc : List (List Nat)) (x2 : Option PyData), acc.length + l.length ≤ lim →
    ∃ x2', loopD (setN 2) (seqS (ifD (cmp notInC (fun ρ => rget ρ 2) (fun ρ => rget ρ 1)) (seqS (appD 1 (fun ρ => rget ρ 2)) (fun ρ => some (.next ρ))) (fun ρ => some (.next ρ))) (fun ρ => some (.next ρ))) (fun ρ => some (.next ρ)) (l.map eL) [u, some (eLL acc), x2] =
      some (.next [u, some (eLL (dedup acc l)), x2']) := by
  intro l
  induction l with
  | nil => intro acc x2 _; exact ⟨x2, rfl⟩
  | cons x l ih =>
    intro acc x2 hl
    rw [List.length_cons] at hl
    rw [List.map_cons]
    unfold loopD dedup
    have c : cmp notInC (fun ρ => rget ρ 2) (fun ρ => rget ρ 1) [u, some (eLL acc), some (eL x)] = some (!decide (x ∈ acc)) := by
      rw [cmp_of (a := eL x) (b := eLL acc) rfl rfl, notInC_eL]
    by_cases h : x ∈ acc
    · rw [if_pos h]
      obtain ⟨x2', e⟩ := ih acc (some (eL x)) (by omega)
      refine ⟨x2', ?_⟩
      have c' : cmp notInC (fun ρ => rget ρ 2) (fun ρ => rget ρ 1) [u, some (eLL acc), some (eL x)] = some false := by rw [c]; simp [h]
      show (match seqS (ifD _ _ _) _ [u, some (eLL acc), some (eL x)] with | some (.next ρ₂) => _ | some (.cont ρ₂) => _ | some (.brk ρ₂) => _ | some (.ret d) => _ | none => _) = _
      rw [seqS_next (ρ' := [u, some (eLL acc), some (eL x)]) (by rw [ifD_false c'])]
      exact e
    · rw [if_neg h]
      obtain ⟨x2', e⟩ := ih (acc ++ [x]) (some (eL x)) (by simp; omega)
      refine ⟨x2', ?_⟩
      have c' : cmp notInC (fun ρ => rget ρ 2) (fun ρ => rget ρ 1) [u, some (eLL acc), some (eL x)] = some true := by rw [c]; simp [h]
      have ap : appD 1 (fun ρ => rget ρ 2) [u, some (eLL acc), some (eL x)] = some (.next [u, some (eLL (acc ++ [x])), some (eL x)]) := by
        show (if (acc.map eL).length ≤ lim then some (Out.next [u, some (.list (acc.map eL ++ [eL x])), some (eL x)]) else none) = _
        rw [if_pos (by rw [List.length_map]; omega)]
        simp [eLL]
      show (match seqS (ifD _ _ _) _ [u, some (eLL acc), some (eL x)] with | some (.next ρ₂) => _ | some (.cont ρ₂) => _ | some (.brk ρ₂) => _ | some (.ret d) => _ | none => _) = _
      rw [seqS_next (ρ' := [u, some (eLL (acc ++ [x])), some (eL x)]) (by rw [ifD_true c', seqS_next ap])]
      exact e
theorem du_is (l : List (List Nat)) (hl : l.length ≤ lim) : g_deduplicate_unhashable [eLL l] = some (eLL (dedup [] l)) := by
  obtain ⟨x2', e⟩ := du_loop (some (eLL l)) l [] none (by simpa using hl)
  show runBody d__deduplicate_unhashable [some (eLL l), none, none] = _
  unfold d__deduplicate_unhashable
  have e1 : asgO (limL (fun _ => some [])) 1 [some (eLL l), none, none] = some (.next [some (eLL l), some (eLL []), none]) := rfl
  unfold runBody
  rw [seqS_next e1]
  have e2 : forD (seqL (fun ρ => rget ρ 0)) (setN 2) (seqS (ifD (cmp notInC (fun ρ => rget ρ 2) (fun ρ => rget ρ 1)) (seqS (appD 1 (fun ρ => rget ρ 2)) (fun ρ => some (.next ρ))) (fun ρ => some (.next ρ))) (fun ρ => some (.next ρ))) (fun ρ => some (.next ρ)) [some (eLL l), some (eLL []), none] = _ := e
  rw [seqS_next e2]
  rfl

/-! names and paths -/
noncomputable def nameP (part : List Nat) : Str := ⟨(([0, 1, 2, 3].filter (part.contains ·)).map (97 + ·)).toArray⟩
noncomputable def slash : Str := ⟨#[47]⟩
noncomputable def joinP (here name : Str) : Str := if Txt.endswith here slash then here ++ name else here ++ (slash ++ name)
theorem slash_is : ("/" : Str) = slash := by decide +kernel
noncomputable def ins1 (x : Nat) : List Nat → List (List Nat)
  | [] => [[x]]
  | y :: r => (x :: y :: r) :: (ins1 x r).map (y :: ·)
noncomputable def allP : List (List Nat) := [[]] ++ (List.range 4).map (fun a => [a]) ++ ((List.range 4).flatMap fun a => ((List.range 4).filter (· != a)).map fun b => [a, b]) ++
  ((List.range 4).flatMap fun a => ((List.range 4).filter (· != a)).flatMap fun b => ((List.range 4).filter fun c => c != a && c != b).map fun c => [a, b, c]) ++
  ((List.range 4).flatMap fun a => ((List.range 4).filter (· != a)).flatMap fun b => ((List.range 4).filter fun c => c != a && c != b).flatMap fun c => ((List.range 4).filter fun d => d != a && d != b && d != c).map fun d => [a, b, c, d])
theorem allP2 : ∀ a < 4, ∀ b < 4, a ≠ b → [a, b] ∈ allP := by decide +kernel
theorem all_range {n : Nat} {p : Nat → Bool} (h : (List.range n).all p = true) (a : Nat) (ha : a < n) : p a = true := List.all_eq_true.mp h a (List.mem_range.mpr ha)
theorem allP3b : ((List.range 4).all fun a => (List.range 4).all fun b => (List.range 4).all fun c => (a == b || a == c || b == c) || allP.contains [a, b, c]) = true := by decide +kernel
theorem allP4b : ((List.range 4).all fun a => (List.range 4).all fun b => (List.range 4).all fun c => (List.range 4).all fun d => (a == b || a == c || b == c || a == d || b == d || c == d) || allP.contains [a, b, c, d]) = true := by decide +kernel
theorem allP3 (a : Nat) (ha : a < 4) (b : Nat) (hb : b < 4) (c : Nat) (hc : c < 4) (h : a ≠ b ∧ a ≠ c ∧ b ≠ c) : [a, b, c] ∈ allP := by
  have := all_range (all_range (all_range allP3b a ha) b hb) c hc
  simpa [h.1, h.2.1, h.2.2] using this
theorem allP4 (a : Nat) (ha : a < 4) (b : Nat) (hb : b < 4) (c : Nat) (hc : c < 4) (d : Nat) (hd : d < 4) (h : a ≠ b ∧ a ≠ c ∧ b ≠ c ∧ a ≠ d ∧ b ≠ d ∧ c ≠ d) : [a, b, c, d] ∈ allP := by
  obtain ⟨h1, h2, h3, h4, h5, h6⟩ := h
  have := all_range (all_range (all_range (all_range allP4b a ha) b hb) c hc) d hd
  simpa [h1, h2, h3, h4, h5, h6] using this
theorem allP1 : ∀ a < 4, [a] ∈ allP := by decide +kernel
theorem allP_mem {l : List Nat} (hn : l.Nodup) (hl : ∀ x ∈ l, x < 4) : l ∈ allP := by
  have len := low_length hn hl
  match l, hn, hl, len with
  | [], _, _, _ => decide +kernel
  | [a], _, hl, _ => exact allP1 a (hl a (by simp))
  | [a, b], hn, hl, _ =>
    simp at hn
    exact allP2 a (hl a (by simp)) b (hl b (by simp)) hn
  | [a, b, c], hn, hl, _ =>
    simp at hn
    exact allP3 a (hl a (by simp)) b (hl b (by simp)) c (hl c (by simp)) ⟨hn.1.1, hn.1.2, hn.2⟩
  | [a, b, c, d], hn, hl, _ =>
    simp at hn
    obtain ⟨⟨h1, h2, h3⟩, ⟨h4, h5⟩, h6⟩ := hn
    exact allP4 a (hl a (by simp)) b (hl b (by simp)) c (hl c (by simp)) d (hl d (by simp)) ⟨h1, h2, h4, h3, h5, h6⟩
  | _ :: _ :: _ :: _ :: _ :: _, _, _, len => simp at len
noncomputable def nameD (ρ : Rho) : Option PyData := methD joinF (fun _ => some (.str "")) (compD (seqL (sortD (fun ρ => rget ρ 11))) [none] (.one 0) (fun _ => some true) (bin itemD (fun _ => some (.str "abcd")) (fun ρ => rget ρ 0))) ρ
noncomputable def chkName (p : List Nat) : Bool := match nameD [none, none, none, none, none, none, none, none, none, none, none, some (eL p), none, none] with
  | some (.str x) => x == nameP p && !Txt.startswith (nameP p) slash && decide ((nameP p).length ≤ 4)
  | _ => false
theorem chkNames : allP.all chkName = true := by decide +kernel
end Mine


namespace Mine
theorem forD_of {fi : Rho → Option (List PyData)} {b : PyData → Rho → Option Rho} {body orelse : Rho → Option Out} {ρ : Rho} {ds : List PyData} (h : fi ρ = some ds) : forD fi b body orelse ρ = loopD b body orelse ds ρ := by unfold forD; rw [h]
theorem loopD_next {b : PyData → Rho → Option Rho} {body orelse : Rho → Option Out} {ρ ρ₁ ρ₂ : Rho} {d : PyData} {ds : List PyData} (h : b d ρ = some ρ₁) (h' : body ρ₁ = some (.next ρ₂)) : loopD b body orelse (d :: ds) ρ = loopD b body orelse ds ρ₂ := by
  conv => lhs; unfold loopD
  rw [h]; dsimp only; rw [h']
theorem loopD_ret {b : PyData → Rho → Option Rho} {body orelse : Rho → Option Out} {ρ ρ₁ : Rho} {d e : PyData} {ds : List PyData} (h : b d ρ = some ρ₁) (h' : body ρ₁ = some (.ret e)) : loopD b body orelse (d :: ds) ρ = some (.ret e) := by
  unfold loopD
  rw [h]; dsimp only; rw [h']
theorem join_is {here name : Str} (h1 : here.length ≠ 0) (h2 : here.length ≤ 1000) (h3 : Txt.startswith name slash = false) (h4 : name.length ≤ 4) : g_join [.str here, .str name] = some (.str (joinP here name)) := by
  have l1 : slash.length = 1 := rfl
  show runBody d_join [some (.str here), some (.tuple [.str name]), none, none, none] = _
  unfold d_join runBody
  rw [seqS_next (ρ' := [some (.str here), some (.tuple [.str name]), none, none, none]) (asg_of (d := .str here) rfl)]
  rw [seqS_next (ρ' := [some (.str here), some (.tuple [.str name]), some (.str slash), none, none]) (asg_of (d := .str slash) (by rw [← slash_is]; rfl))]
  rw [seqS_next (ρ' := [some (.str here), some (.tuple [.str name]), some (.str slash), some (.str here), none]) (asg_of (d := .str here) rfl)]
  have body : forD (seqL (fun ρ => rget ρ 1)) (setN 4) (seqS (asg (callD g_fspath (consD (fun ρ => rget ρ 4) (fun _ => some []))) (setN 4))
      (seqS (ifD (orC (truthC (methD startsF (fun ρ => rget ρ 4) (fun ρ => rget ρ 2))) (orC (fun ρ => ((truthC (fun ρ => rget ρ 3)) ρ).map (!·)) (fun _ => some false))) (seqS (asg (fun ρ => rget ρ 4) (setN 3))
        (fun ρ => some (.next ρ))) (seqS (ifD (truthC (methD endsF (fun ρ => rget ρ 3) (fun ρ => rget ρ 2))) (seqS (augD 3 (fun ρ => rget ρ 4))
        (fun ρ => some (.next ρ))) (seqS (augD 3 (bin addD (fun ρ => rget ρ 2) (fun ρ => rget ρ 4)))
        (fun ρ => some (.next ρ))))
        (fun ρ => some (.next ρ))))
        (fun ρ => some (.next ρ)))) (fun ρ => some (.next ρ)) [some (.str here), some (.tuple [.str name]), some (.str slash), some (.str here), none] =
      some (.next [some (.str here), some (.tuple [.str name]), some (.str slash), some (.str (joinP here name)), some (.str name)]) := by
    rw [forD_of (ds := [.str name]) rfl, loopD_next (ρ₁ := [some (.str here), some (.tuple [.str name]), some (.str slash), some (.str here), some (.str name)]) (ρ₂ := [some (.str here), some (.tuple [.str name]), some (.str slash), some (.str (joinP here name)), some (.str name)]) rfl]
    · rfl
    rw [seqS_next (ρ' := [some (.str here), some (.tuple [.str name]), some (.str slash), some (.str here), some (.str name)]) (asg_of (d := .str name) rfl)]
    have c1 : orC (truthC (methD startsF (fun ρ => rget ρ 4) (fun ρ => rget ρ 2))) (orC (fun ρ => ((truthC (fun ρ => rget ρ 3)) ρ).map (!·)) (fun _ => some false)) [some (.str here), some (.tuple [.str name]), some (.str slash), some (.str here), some (.str name)] = some false := by
      have t1 : truthC (methD startsF (fun ρ => rget ρ 4) (fun ρ => rget ρ 2)) [some (.str here), some (.tuple [.str name]), some (.str slash), some (.str here), some (.str name)] = some false := by
        show truthD (.bool (Txt.startswith name slash)) = _
        rw [h3]; rfl
      unfold orC
      rw [t1]
      dsimp only
      have t2 : truthC (fun ρ => rget ρ 3) [some (.str here), some (.tuple [.str name]), some (.str slash), some (.str here), some (.str name)] = some true := by
        show truthD (.str here) = _
        have hl : here.length ≤ lim := by unfold lim; omega
        unfold truthD
        simp [h1, hl]
      rw [t2]; rfl
    rw [seqS_next (ρ' := [some (.str here), some (.tuple [.str name]), some (.str slash), some (.str (joinP here name)), some (.str name)])]
    rw [ifD_false c1]
    have c2 : truthC (methD endsF (fun ρ => rget ρ 3) (fun ρ => rget ρ 2)) [some (.str here), some (.tuple [.str name]), some (.str slash), some (.str here), some (.str name)] = some (Txt.endswith here slash) := by
      show truthD (.bool (Txt.endswith here slash)) = _
      rfl
    unfold joinP
    cases he : Txt.endswith here slash with
    | true =>
      rw [he] at c2
      rw [seqS_next (ρ' := [some (.str here), some (.tuple [.str name]), some (.str slash), some (.str (here ++ name)), some (.str name)])]
      · rfl
      rw [ifD_true c2]
      have a1 : augD 3 (fun ρ => rget ρ 4) [some (.str here), some (.tuple [.str name]), some (.str slash), some (.str here), some (.str name)] = some (.next [some (.str here), some (.tuple [.str name]), some (.str slash), some (.str (here ++ name)), some (.str name)]) := by
        show (if here.length + name.length ≤ lim then _ else none) = _
        rw [if_pos (by unfold lim; omega)]; rfl
      rw [seqS_next a1]
    | false =>
      rw [he] at c2
      rw [seqS_next (ρ' := [some (.str here), some (.tuple [.str name]), some (.str slash), some (.str (here ++ (slash ++ name))), some (.str name)])]
      · rfl
      rw [ifD_false c2]
      have ad : bin addD (fun ρ => rget ρ 2) (fun ρ => rget ρ 4) [some (.str here), some (.tuple [.str name]), some (.str slash), some (.str here), some (.str name)] = some (.str (slash ++ name)) := by
        show (if slash.length + name.length ≤ lim then _ else none) = _
        rw [if_pos (by unfold lim; omega)]
      have ls : (slash ++ name).length = 1 + name.length := by
        show (slash.cps ++ name.cps).size = _
        rw [Array.size_append]; rfl
      have a1 : augD 3 (bin addD (fun ρ => rget ρ 2) (fun ρ => rget ρ 4)) [some (.str here), some (.tuple [.str name]), some (.str slash), some (.str here), some (.str name)] = some (.next [some (.str here), some (.tuple [.str name]), some (.str slash), some (.str (here ++ (slash ++ name))), some (.str name)]) := by
        unfold augD
        rw [ad]
        show (if here.length + (slash ++ name).length ≤ lim then _ else none) = _
        rw [if_pos (by rw [ls]; unfold lim; omega)]; rfl
      rw [seqS_next a1]
  rw [seqS_next (ρ' := [some (.str here), some (.tuple [.str name]), some (.str slash), some (.str (joinP here name)), some (.str name)])]
  · rfl
  rw [seqS_next (ρ' := [some (.str here), some (.tuple [.str name]), some (.str slash), some (.str (joinP here name)), some (.str name)])]
  rw [seqS_next body]
end Mine


namespace Mine
noncomputable def encW (w : Nat × Str) : PyData := .list [eN w.1, .str w.2]
noncomputable def eW (ws : List (Nat × Str)) : PyData := .list (ws.map encW)
noncomputable def hereOk (here : Str) : Bool := here.length != 0 && decide (here.length ≤ 1000) && PyData.strOk here
noncomputable def waysOk (ws : List (Nat × Str)) : Bool := decide (ws.length ≤ 1000) && ws.all fun w => PyData.strOk w.2
noncomputable def waysO (rec : List Nat → Str → Option (List (Nat × Str))) (here : Str) : List (List Nat) → List (Nat × Str) → Option (List (Nat × Str))
  | [], ws => some ws
  | p :: ps, ws => match (if p.length = 1 then some [(p.headD 0, joinP here (nameP p))] else rec p (joinP here (nameP p))) with
    | none => none
    | some below => if waysOk below && waysOk ws then (if below.isEmpty then some [] else waysO rec here ps (ws ++ below)) else none
noncomputable def grownO : Nat → List (Nat × Nat × Nat) → List Nat → Str → Option (List (Nat × Str))
  | 0, _, _, _ => none
  | n + 1, cl, leaves, here =>
    if hereOk here then
      (if (dedup [] (leaves.map fun x => (nearP leaves cl).getD x [])).length = 1 then some []
      else waysO (grownO n cl) here (dedup [] (leaves.map fun x => (nearP leaves cl).getD x [])) [])
    else none
noncomputable def gl : Nat → List PyData → Option PyData
  | 0 => fun _ => none
  | n + 1 => gs_law_grown (gl n)

theorem lay_eW : ∀ ws : List (Nat × Str), (ws.all fun w => PyData.strOk w.2) = true → PyData.canLayAll0 (ws.map encW) = true
  | [], _ => by simp [PyData.canLayAll0]
  | w :: ws, h => by
    rw [List.all_cons, Bool.and_eq_true] at h
    simp [PyData.canLayAll0, lay_eW ws h.2, encW, PyData.canLay0, eN, h.1]
theorem dep_eW : ∀ ws : List (Nat × Str), PyData.depthAll (ws.map encW) ≤ 1
  | [] => by simp [PyData.depthAll]
  | w :: ws => by
    have := dep_eW ws
    simp only [List.map_cons, PyData.depthAll, encW, PyData.depth, eN]
    omega
theorem shaped_eW {ws : List (Nat × Str)} (h : waysOk ws = true) : SeqAt.shaped (eW ws) = true := by
  unfold waysOk at h
  rw [Bool.and_eq_true] at h
  have := dep_eW ws
  simp only [SeqAt.shaped, eW, PyData.canLay0, PyData.depth, lay_eW ws h.2, Bool.true_and, decide_eq_true_eq]
  omega
theorem eqv_eW_nil (ws : List (Nat × Str)) : (eW ws).eqv (.list []) = ws.isEmpty := by
  cases ws <;> simp [eW, PyData.eqv, PyData.eqvAll]
theorem eqC_eW {ws : List (Nat × Str)} (h : waysOk ws = true) : eqC (eW ws) (.list []) = some ws.isEmpty := by
  have h2 : SeqAt.shaped (.list []) = true := shaped_eL []
  simp only [eqC, shaped_eW h, h2, Bool.and_self, if_true, eqv_eW_nil]
theorem neC_eW {ws : List (Nat × Str)} (h : waysOk ws = true) : neC (eW ws) (.list []) = some (!ws.isEmpty) := by
  have h2 : SeqAt.shaped (.list []) = true := shaped_eL []
  simp only [neC, shaped_eW h, h2, Bool.and_self, if_true, eqv_eW_nil]

theorem consD_of {f : Rho → Option PyData} {g : Rho → Option (List PyData)} {ρ : Rho} {a : PyData} {b : List PyData} (h : f ρ = some a) (h' : g ρ = some b) : consD f g ρ = some (a :: b) := by unfold consD; rw [h, h']
theorem listD_of {f : Rho → Option (List PyData)} {ρ : Rho} {l : List PyData} (h : f ρ = some l) (hl : l.length ≤ lim) : listD f ρ = some (.list l) := by unfold listD; rw [h]; dsimp only; rw [if_pos hl]
variable {gr : List PyData → Option PyData}
/-- the frame's latter half: near is no more written -/
noncomputable def RW' (C L H N P : PyData) (ws : PyData) (x5 x6 x7 x8 x9 x11 x12 x13 : Option PyData) : Rho := [some C, some L, some H, some N, some ws, x5, x6, x7, x8, x9, some P, x11, x12, x13]
theorem name_is {C L H N P ws : PyData} {x5 x6 x7 x8 x9 x12 x13 : Option PyData} {p : List Nat} (hp : p ∈ allP) :
    methD joinF (fun _ => some (.str "")) (compD (seqL (sortD (fun ρ => rget ρ 11))) [none] (.one 0) (fun _ => some true) (bin itemD (fun _ => some (.str "abcd")) (fun ρ => rget ρ 0))) (RW' C L H N P ws x5 x6 x7 x8 x9 (some (eL p)) x12 x13) = some (.str (nameP p))
      ∧ Txt.startswith (nameP p) slash = false ∧ (nameP p).length ≤ 4 := by
  have h := List.all_eq_true.mp chkNames p hp
  unfold chkName at h
  have e : nameD [none, none, none, none, none, none, none, none, none, none, none, some (eL p), none, none] = nameD (RW' C L H N P ws x5 x6 x7 x8 x9 (some (eL p)) x12 x13) := rfl
  rw [e] at h
  split at h
  · rename_i x hx
    simp only [Bool.and_eq_true, Bool.not_eq_true', decide_eq_true_eq] at h
    obtain ⟨⟨h1, h2⟩, h3⟩ := h
    exact ⟨hx.trans (by rw [eq_of_beq h1]), h2, h3⟩
  · cases h
theorem ways_loop {C H N P : PyData} {leaves : List Nat} {x5 x6 x7 x8 x9 : Option PyData} {here : Str} (rec : List Nat → Str → Option (List (Nat × Str))) (hH : hereOk here = true)
    (hrec : ∀ p way ws, rec p way = some ws → p.Nodup → (∀ x ∈ p, x < 4) → gr [C, eL p, .str way] = some (eW ws)) : ∀ (ps : List (List Nat)), (∀ p ∈ ps, p.Nodup ∧ ∀ x ∈ p, x < 4) → ∀ (ws out : List (Nat × Str)) (x11 x12 x13 : Option PyData),
    waysO rec here ps ws = some out →
    ∃ x11' x12' x13', loopD (setN 11) (seqS (dG_13 gr) (seqS (dG_15 gr) (seqS (dG_17 gr) (seqS (dG_18 gr) (fun ρ => some (.next ρ)))))) (fun ρ => some (.next ρ)) (ps.map eL) (RW' C (eL leaves) (.str here) N P (eW ws) x5 x6 x7 x8 x9 x11 x12 x13) = some (.next (RW' C (eL leaves) (.str here) N P (eW out) x5 x6 x7 x8 x9 x11' x12' x13'))
      ∨ (out = [] ∧ loopD (setN 11) (seqS (dG_13 gr) (seqS (dG_15 gr) (seqS (dG_17 gr) (seqS (dG_18 gr) (fun ρ => some (.next ρ)))))) (fun ρ => some (.next ρ)) (ps.map eL) (RW' C (eL leaves) (.str here) N P (eW ws) x5 x6 x7 x8 x9 x11 x12 x13) = some (.ret (.list []))) := by
  intro ps
  induction ps with
  | nil => intro _ ws out x11 x12 x13 h; cases h; exact ⟨x11, x12, x13, .inl rfl⟩
  | cons p ps ih =>
    intro hps ws out x11 x12 x13 h
    have hp := hps p (.head _)
    have hpa := allP_mem hp.1 hp.2
    have hlen := low_length hp.1 hp.2
    unfold hereOk at hH
    simp only [Bool.and_eq_true, bne_iff_ne, ne_eq, decide_eq_true_eq] at hH
    unfold waysO at h
    cases hb : (if p.length = 1 then some [(p.headD 0, joinP here (nameP p))] else rec p (joinP here (nameP p))) with
    | none => rw [hb] at h; cases h
    | some below =>
      rw [hb] at h
      dsimp only at h
      split at h
      case isFalse => cases h
      rename_i hok
      rw [Bool.and_eq_true] at hok
      obtain ⟨n1, n2, n3⟩ := name_is (C := C) (L := eL leaves) (H := .str here) (N := N) (P := P) (ws := eW ws) (x5 := x5) (x6 := x6) (x7 := x7) (x8 := x8) (x9 := x9) (x12 := x12) (x13 := x13) hpa
      have e13 : dG_13 gr (RW' C (eL leaves) (.str here) N P (eW ws) x5 x6 x7 x8 x9 (some (eL p)) x12 x13) = some (.next (RW' C (eL leaves) (.str here) N P (eW ws) x5 x6 x7 x8 x9 (some (eL p)) (some (.str (joinP here (nameP p)))) x13)) := by
        refine asg_of ?_
        unfold dG_12 callD consD
        rw [n1]
        exact join_is hH.1.1 hH.1.2 n2 n3
      have e15 : dG_15 gr (RW' C (eL leaves) (.str here) N P (eW ws) x5 x6 x7 x8 x9 (some (eL p)) (some (.str (joinP here (nameP p)))) x13) = some (.next (RW' C (eL leaves) (.str here) N P (eW ws) x5 x6 x7 x8 x9 (some (eL p)) (some (.str (joinP here (nameP p)))) (some (eW below)))) := by
        refine asg_of ?_
        unfold dG_14
        have c : cmp eqC (lenD (fun ρ => rget ρ 11)) (fun _ => some (.int 1)) (RW' C (eL leaves) (.str here) N P (eW ws) x5 x6 x7 x8 x9 (some (eL p)) (some (.str (joinP here (nameP p)))) x13) = some (decide (p.length = 1)) := by
          have l1 : lenD (fun ρ => rget ρ 11) (RW' C (eL leaves) (.str here) N P (eW ws) x5 x6 x7 x8 x9 (some (eL p)) (some (.str (joinP here (nameP p)))) x13) = some (eN p.length) := by
            show (if (p.map eN).length ≤ lim then some (PyData.int ((p.map eN).length : Int)) else none) = _
            rw [if_pos (by rw [List.length_map]; unfold lim; omega), List.length_map]; rfl
          rw [cmp_of (a := eN p.length) (b := eN 1) l1 rfl, eqC_eN]
        by_cases h1 : p.length = 1
        · rw [if_pos h1] at hb
          cases hb
          rw [ifD_true (by rw [c]; simp [h1])]
          obtain ⟨a, rfl⟩ := List.length_eq_one_iff.mp h1
          have i0 : bin itemD (fun ρ => rget ρ 11) (fun _ => some (.int 0)) (RW' C (eL leaves) (.str here) N P (eW ws) x5 x6 x7 x8 x9 (some (eL [a])) (some (.str (joinP here (nameP [a])))) x13) = some (eN a) := by
            rw [bin_of (a := eL [a]) (b := eN 0) rfl rfl]
            exact itemD_eL (l := [eN a]) (n := 0) (by simp) (by simp)
          exact listD_of (consD_of (listD_of (consD_of i0 (consD_of (a := .str (joinP here (nameP [a]))) rfl rfl)) (by simp [lim])) rfl) (by simp [lim])
        · rw [if_neg h1] at hb
          rw [ifD_false (by rw [c]; simp [h1])]
          exact hrec p _ below hb hp.1 hp.2
      have cond : cmp eqC (fun ρ => rget ρ 13) (listD (fun _ => some [])) (RW' C (eL leaves) (.str here) N P (eW ws) x5 x6 x7 x8 x9 (some (eL p)) (some (.str (joinP here (nameP p)))) (some (eW below))) = some below.isEmpty := by
        rw [cmp_of (a := eW below) (b := .list []) rfl rfl, eqC_eW hok.1]
      rw [List.map_cons]
      by_cases hbe : below.isEmpty = true
      · rw [if_pos hbe] at h
        cases h
        refine ⟨none, none, none, .inr ⟨rfl, ?_⟩⟩
        refine loopD_ret (ρ₁ := RW' C (eL leaves) (.str here) N P (eW ws) x5 x6 x7 x8 x9 (some (eL p)) x12 x13) rfl ?_
        rw [seqS_next e13, seqS_next e15]
        refine seqS_ret ?_
        unfold dG_17
        rw [ifD_true (by rw [cond, hbe])]
        rfl
      · rw [if_neg hbe] at h
        have hw := hok.2
        have hbl := hok.1
        unfold waysOk at hw hbl
        simp only [Bool.and_eq_true, decide_eq_true_eq] at hw hbl
        have e17 : dG_17 gr (RW' C (eL leaves) (.str here) N P (eW ws) x5 x6 x7 x8 x9 (some (eL p)) (some (.str (joinP here (nameP p)))) (some (eW below))) = some (.next (RW' C (eL leaves) (.str here) N P (eW ws) x5 x6 x7 x8 x9 (some (eL p)) (some (.str (joinP here (nameP p)))) (some (eW below)))) := by
          unfold dG_17
          rw [ifD_false (by rw [cond]; simpa using hbe)]
        have e18 : dG_18 gr (RW' C (eL leaves) (.str here) N P (eW ws) x5 x6 x7 x8 x9 (some (eL p)) (some (.str (joinP here (nameP p)))) (some (eW below))) = some (.next (RW' C (eL leaves) (.str here) N P (eW (ws ++ below)) x5 x6 x7 x8 x9 (some (eL p)) (some (.str (joinP here (nameP p)))) (some (eW below)))) := by
          show (if (ws.map encW).length + (below.map encW).length ≤ lim then some (Out.next (rset _ 4 (.list (ws.map encW ++ below.map encW)))) else none) = _
          rw [if_pos (by simp only [List.length_map]; unfold lim; omega)]
          simp [eW, RW', rset]
        obtain ⟨y11, y12, y13, hi⟩ := ih (fun q hq => hps q (.tail _ hq)) (ws ++ below) out (some (eL p)) (some (.str (joinP here (nameP p)))) (some (eW below)) h
        refine ⟨y11, y12, y13, ?_⟩
        have step : loopD (setN 11) (seqS (dG_13 gr) (seqS (dG_15 gr) (seqS (dG_17 gr) (seqS (dG_18 gr) (fun ρ => some (.next ρ)))))) (fun ρ => some (.next ρ)) (eL p :: ps.map eL) (RW' C (eL leaves) (.str here) N P (eW ws) x5 x6 x7 x8 x9 x11 x12 x13) =
            loopD (setN 11) (seqS (dG_13 gr) (seqS (dG_15 gr) (seqS (dG_17 gr) (seqS (dG_18 gr) (fun ρ => some (.next ρ)))))) (fun ρ => some (.next ρ)) (ps.map eL) (RW' C (eL leaves) (.str here) N P (eW (ws ++ below)) x5 x6 x7 x8 x9 (some (eL p)) (some (.str (joinP here (nameP p)))) (some (eW below))) := by
          refine loopD_next (ρ₁ := RW' C (eL leaves) (.str here) N P (eW ws) x5 x6 x7 x8 x9 (some (eL p)) x12 x13) rfl ?_
          rw [seqS_next e13, seqS_next e15, seqS_next e17, seqS_next e18]
        rw [step]
        exact hi
end Mine


namespace Mine
theorem nearP_ok (leaves : List Nat) (cl : List (Nat × Nat × Nat)) : NearOk (nearP leaves cl) := by
  have : ∀ (cl : List (Nat × Nat × Nat)) (n : List (List Nat)), NearOk n → NearOk (cl.foldl (stepP leaves) n) := by
    intro cl
    induction cl with
    | nil => intro n h; exact h
    | cons c cl ih => intro n h; exact ih _ (h.step leaves c)
  exact this cl _ NearOk.start
theorem gl_is (cl : List (Nat × Nat × Nat)) (hc : ∀ c ∈ cl, c.1 < 4 ∧ c.2.1 < 4) : ∀ (n : Nat) (leaves : List Nat) (here : Str) (ws : List (Nat × Str)), leaves.Nodup → (∀ x ∈ leaves, x < 4) → grownO n cl leaves here = some ws →
    gl n [.list (cl.map eC), eL leaves, .str here] = some (eW ws) := by
  intro n
  induction n with
  | zero => intro leaves here ws _ _ h; cases h
  | succ n ih =>
    intro leaves here ws hn hl h
    unfold grownO at h
    split at h
    case isFalse => cases h
    rename_i hH
    generalize hC : PyData.list (cl.map eC) = C
    have len := low_length hn hl
    have N := nearP_ok leaves cl
    show runBody (d__law_grown (gl n)) [some C, some (eL leaves), some (.str here), none, none, none, none, none, none, none, none, none, none, none] = _
    unfold d__law_grown runBody
    have e0 : dG_0 (gl n) [some C, some (eL leaves), some (.str here), none, none, none, none, none, none, none, none, none, none, none] = some (.next (RG C (eL leaves) (.str here) near0 none none none none none none none none none none)) := rfl
    rw [seqS_next e0]
    obtain ⟨x5, x6, x7, x8, x9, e6⟩ := claims_loop (gr := gl n) (C := C) (H := .str here) (leaves := leaves) (x4 := none) (x10 := none) (x11 := none) (x12 := none) (x13 := none) cl hc near0 none none none none none NearOk.start
    have e6' : dG_6 (gl n) (RG C (eL leaves) (.str here) near0 none none none none none none none none none none) = _ := (forD_of (ds := cl.map eC) (by show seqL (fun _ => some C) [] = _; rw [← hC]; rfl)).trans e6
    rw [seqS_next e6']
    have fold : cl.foldl (stepP leaves) near0 = nearP leaves cl := rfl
    rw [fold]
    generalize hnear : nearP leaves cl = near at *
    have e7 : dG_7 (gl n) (RG C (eL leaves) (.str here) near none x5 x6 x7 x8 x9 none none none none) = some (eLL (dedup [] (leaves.map fun x => near.getD x []))) := by
      unfold dG_7 callD
      have cp : compD (seqL (fun ρ => rget ρ 1)) [none, some 3] (.one 0) (fun _ => some true) (bin itemD (fun ρ => rget ρ 1) (fun ρ => rget ρ 0)) (RG C (eL leaves) (.str here) near none x5 x6 x7 x8 x9 none none none none) = some (eLL (leaves.map fun x => near.getD x [])) := by
        refine compD_of (ds := leaves.map eN) rfl (by rw [List.length_map]; unfold lim; omega) ?_
        refine (compGo_map (e := eN) (fun x => near.getD x []) eL leaves fun x hx => ⟨[some (eN x), some (eLL near)], rfl, rfl, ?_⟩)
        rw [bin_of (a := eLL near) (b := eN x) rfl rfl]
        have hx4 : x < near.length := by rw [N.len]; exact hl x hx
        rw [eLL, itemD_eL (by simpa using hx4) (by simp [N.len]), List.getElem_map, getD_at hx4]
      rw [consD_of cp (b := []) rfl]
      exact du_is _ (by rw [List.length_map]; unfold lim; omega)
    have e8 : dG_8 (gl n) (RG C (eL leaves) (.str here) near none x5 x6 x7 x8 x9 none none none none) = some (.next (RG C (eL leaves) (.str here) near none x5 x6 x7 x8 x9 (some (eLL (dedup [] (leaves.map fun x => near.getD x [])))) none none none)) := asg_of e7
    have plen : (dedup [] (leaves.map fun x => near.getD x [])).length ≤ 4 := by
      have := dedup_length (leaves.map fun x => near.getD x []) []
      rw [List.length_map, List.length_nil] at this
      omega
    have pok : ∀ p ∈ dedup [] (leaves.map fun x => near.getD x []), p.Nodup ∧ ∀ x ∈ p, x < 4 := by
      intro p hp
      rw [dedup_mem] at hp
      rcases hp with hp | hp
      · cases hp
      · obtain ⟨x, hx, rfl⟩ := List.mem_map.mp hp
        have hx4 : x < near.length := by rw [N.len]; exact hl x hx
        rw [getD_at hx4]
        exact ⟨N.nd _ (List.getElem_mem hx4), N.low _ (List.getElem_mem hx4)⟩
    generalize hparts : dedup [] (leaves.map fun x => near.getD x []) = parts at *
    have c10 : cmp eqC (lenD (fun ρ => rget ρ 10)) (fun _ => some (.int 1)) (RG C (eL leaves) (.str here) near none x5 x6 x7 x8 x9 (some (eLL parts)) none none none) = some (decide (parts.length = 1)) := by
      have l1 : lenD (fun ρ => rget ρ 10) (RG C (eL leaves) (.str here) near none x5 x6 x7 x8 x9 (some (eLL parts)) none none none) = some (eN parts.length) := by
        show (if (parts.map eL).length ≤ lim then some (PyData.int ((parts.map eL).length : Int)) else none) = _
        rw [if_pos (by rw [List.length_map]; unfold lim; omega), List.length_map]; rfl
      rw [cmp_of (a := eN parts.length) (b := eN 1) l1 rfl, eqC_eN]
    have done : ∀ (d : PyData), seqS (dG_8 (gl n)) (seqS (dG_10 (gl n)) (seqS (dG_11 (gl n)) (seqS (dG_19 (gl n)) (seqS (dG_20 (gl n)) (fun ρ => some (.next ρ)))))) (RG C (eL leaves) (.str here) near none x5 x6 x7 x8 x9 none none none none) = some (.ret d) → d = eW ws →
        (match retOnly (seqS (dG_8 (gl n)) (seqS (dG_10 (gl n)) (seqS (dG_11 (gl n)) (seqS (dG_19 (gl n)) (seqS (dG_20 (gl n)) (fun ρ => some (.next ρ))))))) (RG C (eL leaves) (.str here) near none x5 x6 x7 x8 x9 none none none none) with
          | some (.ret d) => some d
          | some (.next _) => some .none
          | _ => none) = some (eW ws) := by
      intro d h1 h2
      unfold retOnly
      rw [h1, h2]
    by_cases h1 : parts.length = 1
    · rw [if_pos h1] at h
      cases h
      refine done (.list []) ?_ rfl
      rw [seqS_next e8]
      refine seqS_ret ?_
      unfold dG_10
      rw [ifD_true (by rw [c10]; simp [h1])]
      rfl
    · rw [if_neg h1] at h
      have e10 : dG_10 (gl n) (RG C (eL leaves) (.str here) near none x5 x6 x7 x8 x9 (some (eLL parts)) none none none) = some (.next (RG C (eL leaves) (.str here) near none x5 x6 x7 x8 x9 (some (eLL parts)) none none none)) := by
        unfold dG_10
        rw [ifD_false (by rw [c10]; simp [h1])]
      have e11 : dG_11 (gl n) (RG C (eL leaves) (.str here) near none x5 x6 x7 x8 x9 (some (eLL parts)) none none none) = some (.next (RW' C (eL leaves) (.str here) (eLL near) (eLL parts) (eW []) x5 x6 x7 x8 x9 none none none)) := rfl
      obtain ⟨y11, y12, y13, hw⟩ := ways_loop (gr := gl n) (C := C) (H := .str here) (N := eLL near) (P := eLL parts) (leaves := leaves) (x5 := x5) (x6 := x6) (x7 := x7) (x8 := x8) (x9 := x9) (grownO n cl) hH
        (fun p way ws' e a b => by rw [← hC]; exact ih p way ws' a b e) parts pok [] ws none none none h
      rcases hw with hw | ⟨rfl, hw⟩
      · refine done _ ?_ rfl
        rw [seqS_next e8, seqS_next e10, seqS_next e11]
        have e19 : dG_19 (gl n) (RW' C (eL leaves) (.str here) (eLL near) (eLL parts) (eW []) x5 x6 x7 x8 x9 none none none) = _ := (forD_of (ds := parts.map eL) rfl).trans hw
        rw [seqS_next e19]
        rfl
      · refine done (.list []) ?_ rfl
        rw [seqS_next e8, seqS_next e10, seqS_next e11]
        have e19 : dG_19 (gl n) (RW' C (eL leaves) (.str here) (eLL near) (eLL parts) (eW []) x5 x6 x7 x8 x9 none none none) = _ := (forD_of (ds := parts.map eL) rfl).trans hw
        exact seqS_ret e19
end Mine


namespace Mine
noncomputable def clms : List (Nat × Nat × Nat) := [(2,3,1),(1,3,2),(1,2,3),(2,3,0),(0,3,2),(0,2,3),(1,3,0),(0,3,1),(0,1,3),(1,2,0),(0,2,1),(0,1,2)]
noncomputable def clm (n : Nat) : Nat × Nat × Nat := clms.getD n (0, 1, 2)
noncomputable def T0 : List (List Nat) := [[11,8,3,0],[11,8,5,2],[11,8,4,1],[10,5,6,1],[10,5,8,2],[10,5,7,0],[7,4,9,2],[7,4,11,1],[7,4,10,0],[9,2,8,5],[9,2,6,3],[6,1,11,4],[6,1,9,3],[3,0,10,7],[3,0,9,6]]
/-- the leaves other than `i` -/
noncomputable def LV : Nat → List Nat
  | 0 => [1, 2, 3]
  | 1 => [0, 2, 3]
  | 2 => [0, 1, 3]
  | 3 => [0, 1, 2]
  | _ => [0, 1, 2, 3]
/-- the partition as a name for each leaf: its least neighbour -/
noncomputable def code (f : List (List Nat)) : List Nat := f.map fun l => l.foldl min 9
noncomputable def JJ (L : List Nat) (z : List Nat) (n : Nat) : List Nat :=
  if L.contains (clm n).1 && (L.contains (clm n).2.1 && L.contains (clm n).2.2) then
    z.map fun x => if x == z.getD (clm n).1 0 || x == z.getD (clm n).2.1 0 then min (z.getD (clm n).1 0) (z.getD (clm n).2.1 0) else x
  else z
noncomputable def cz : List Nat := [0, 1, 2, 3]
/-- the code whose one part of three is all but `i` -/
noncomputable def cT : Nat → List Nat
  | 0 => [0, 1, 1, 1]
  | 1 => [0, 1, 0, 0]
  | 2 => [0, 0, 2, 0]
  | 3 => [0, 0, 0, 3]
  | _ => [0, 0, 0, 0]
noncomputable def ZZ (a b c d e : List Nat) : Bool := e == cT 4 || (e == cT 0 && a == cT 0) || (e == cT 1 && b == cT 1) || (e == cT 2 && c == cT 2) || (e == cT 3 && d == cT 3)
noncomputable def triI (e : List Nat) : Nat := if e == cT 0 then 0 else if e == cT 1 then 1 else if e == cT 2 then 2 else if e == cT 3 then 3 else 4
noncomputable def nearer (z : List Nat) (c : Nat × Nat × Nat) : Bool := z.getD c.1 0 == z.getD c.2.1 0 && z.getD c.1 0 != z.getD c.2.2 0
/-- claim `n` holds in the tree of full code `e` and inner code `g` -/
noncomputable def shownZ (e g : List Nat) (n : Nat) : Bool := nearer e (clm n) || (decide (triI e < 4) && (triI e != (clm n).1 && triI e != (clm n).2.1 && triI e != (clm n).2.2) && nearer g (clm n))
noncomputable def pick {α : Type} (a b c d e : α) : Nat → α
  | 0 => a
  | 1 => b
  | 2 => c
  | 3 => d
  | _ => e
noncomputable def leafOk (l : List Nat) (trees : List (List Nat)) (a b c d e : List Nat) : Bool :=
  if trees.isEmpty then ZZ a b c d e else
    !ZZ a b c d e && l.all (shownZ e (pick a b c d e (triI e))) && trees.any fun t => (List.range 12).all fun n => !shownZ e (pick a b c d e (triI e)) n || t.contains n
noncomputable def chkAll : List Nat → List Nat → List (List Nat) → List Nat → List Nat → List Nat → List Nat → List Nat → Bool
  | [], l, ts, a, b, c, d, e => leafOk l ts a b c d e
  | k :: ks, l, ts, a, b, c, d, e => (ts.isEmpty && ZZ a b c d e) || (chkAll ks l ts a b c d e && chkAll ks (l ++ [k]) (ts.filter (·.contains k)) (JJ (LV 0) a k) (JJ (LV 1) b k) (JJ (LV 2) c k) (JJ (LV 3) d k) (JJ (LV 4) e k))
theorem chk_all : chkAll (List.range 12) [] T0 cz cz cz cz cz = true := by decide +kernel
theorem JJ_in : ∀ k < 12, JJ (LV 0) (cT 0) k = cT 0 ∧ JJ (LV 1) (cT 1) k = cT 1 ∧ JJ (LV 2) (cT 2) k = cT 2 ∧ JJ (LV 3) (cT 3) k = cT 3 ∧ JJ (LV 4) (cT 4) k = cT 4 := by decide +kernel
theorem JJ_out : ∀ k < 12, ∀ i < 4, JJ (LV 4) (cT i) k = cT i ∨ JJ (LV 4) (cT i) k = cT 4 := by decide +kernel
theorem ZZ_mono {a b c d e : List Nat} (h : ZZ a b c d e = true) (k : Nat) (hk : k < 12) : ZZ (JJ (LV 0) a k) (JJ (LV 1) b k) (JJ (LV 2) c k) (JJ (LV 3) d k) (JJ (LV 4) e k) = true := by
  obtain ⟨h0, h1, h2, h3, h4⟩ := JJ_in k hk
  have o := JJ_out k hk
  simp only [ZZ, Bool.or_eq_true, Bool.and_eq_true, beq_iff_eq] at h ⊢
  rcases h with (((h | h) | h) | h) | h
  · exact .inl (.inl (.inl (.inl (h ▸ h4))))
  · obtain ⟨rfl, rfl⟩ := h
    rcases o 0 (by omega) with o | o
    · exact .inl (.inl (.inl (.inr ⟨o, h0⟩)))
    · exact .inl (.inl (.inl (.inl o)))
  · obtain ⟨rfl, rfl⟩ := h
    rcases o 1 (by omega) with o | o
    · exact .inl (.inl (.inr ⟨o, h1⟩))
    · exact .inl (.inl (.inl (.inl o)))
  · obtain ⟨rfl, rfl⟩ := h
    rcases o 2 (by omega) with o | o
    · exact .inl (.inr ⟨o, h2⟩)
    · exact .inl (.inl (.inl (.inl o)))
  · obtain ⟨rfl, rfl⟩ := h
    rcases o 3 (by omega) with o | o
    · exact .inr ⟨o, h3⟩
    · exact .inl (.inl (.inl (.inl o)))
theorem ZZ_fold : ∀ (m : List Nat), (∀ x ∈ m, x < 12) → ∀ a b c d e : List Nat, ZZ a b c d e = true → ZZ (m.foldl (JJ (LV 0)) a) (m.foldl (JJ (LV 1)) b) (m.foldl (JJ (LV 2)) c) (m.foldl (JJ (LV 3)) d) (m.foldl (JJ (LV 4)) e) = true := by
  intro m
  induction m with
  | nil => intro _ a b c d e h; exact h
  | cons x m ih => intro hm a b c d e h; exact ih (fun y hy => hm y (.tail _ hy)) _ _ _ _ _ (ZZ_mono h x (hm x (.head _)))
theorem filter_sub (t : List (List Nat)) (k : Nat) (m : List Nat) : (t.filter (·.contains k)).filter (fun t => m.all t.contains) = t.filter (fun t => (k :: m).all t.contains) := by
  rw [List.filter_filter]
  congr 1
  funext t
  rw [List.all_cons, Bool.and_comm]
theorem chk_sound (p : Nat → Bool) : ∀ (ks : List Nat), (∀ x ∈ ks, x < 12) → ∀ (l : List Nat) (ts : List (List Nat)) (a b c d e : List Nat), chkAll ks l ts a b c d e = true →
    (ts.filter (fun t => (ks.filter p).all t.contains) = [] ∧ ZZ ((ks.filter p).foldl (JJ (LV 0)) a) ((ks.filter p).foldl (JJ (LV 1)) b) ((ks.filter p).foldl (JJ (LV 2)) c) ((ks.filter p).foldl (JJ (LV 3)) d) ((ks.filter p).foldl (JJ (LV 4)) e) = true) ∨
    leafOk (l ++ ks.filter p) (ts.filter (fun t => (ks.filter p).all t.contains)) ((ks.filter p).foldl (JJ (LV 0)) a) ((ks.filter p).foldl (JJ (LV 1)) b) ((ks.filter p).foldl (JJ (LV 2)) c) ((ks.filter p).foldl (JJ (LV 3)) d) ((ks.filter p).foldl (JJ (LV 4)) e) = true := by
  intro ks
  induction ks with
  | nil =>
    intro _ l ts a b c d e h
    have : ts.filter (fun t => ([] : List Nat).all t.contains) = ts := List.filter_eq_self.mpr fun _ _ => rfl
    simp only [List.filter_nil, List.append_nil, List.foldl_nil, this]
    exact .inr h
  | cons k ks ih =>
    intro hk l ts a b c d e h
    unfold chkAll at h
    rw [Bool.or_eq_true] at h
    rcases h with h | h
    · rw [Bool.and_eq_true, List.isEmpty_iff] at h
      left
      refine ⟨by rw [h.1]; rfl, ?_⟩
      exact ZZ_fold _ (fun x hx => hk x (List.mem_filter.mp hx).1) _ _ _ _ _ h.2
    · rw [Bool.and_eq_true] at h
      have hk' : ∀ x ∈ ks, x < 12 := fun x hx => hk x (.tail _ hx)
      rw [List.filter_cons]
      cases hp : p k with
      | false => exact ih hk' l ts a b c d e h.1
      | true =>
        have := ih hk' _ _ _ _ _ _ _ h.2
        simp only [if_true]
        rw [filter_sub] at this
        simpa only [List.append_assoc, List.singleton_append, List.foldl_cons] using this
end Mine


namespace Mine
/-- the states `near` can be in, for the leaves `LV i` -/
noncomputable def nears : Nat → List (List (List Nat))
  | 0 => [[[0], [1], [2], [3]], [[0], [1], [2, 3], [2, 3]], [[0], [1, 3], [2], [1, 3]], [[0], [1, 2], [1, 2], [3]], [[0], [1, 2, 3], [1, 2, 3], [1, 2, 3]], [[0], [2, 1, 3], [2, 1, 3], [2, 1, 3]], [[0], [1, 3, 2], [1, 3, 2], [1, 3, 2]]]
  | 1 => [[[0], [1], [2], [3]], [[0], [1], [2, 3], [2, 3]], [[0, 3], [1], [2], [0, 3]], [[0, 2], [1], [0, 2], [3]], [[0, 2, 3], [1], [0, 2, 3], [0, 2, 3]], [[2, 0, 3], [1], [2, 0, 3], [2, 0, 3]], [[0, 3, 2], [1], [0, 3, 2], [0, 3, 2]]]
  | 2 => [[[0], [1], [2], [3]], [[0], [1, 3], [2], [1, 3]], [[0, 3], [1], [2], [0, 3]], [[0, 1], [0, 1], [2], [3]], [[0, 1, 3], [0, 1, 3], [2], [0, 1, 3]], [[1, 0, 3], [1, 0, 3], [2], [1, 0, 3]], [[0, 3, 1], [0, 3, 1], [2], [0, 3, 1]]]
  | 3 => [[[0], [1], [2], [3]], [[0], [1, 2], [1, 2], [3]], [[0, 2], [1], [0, 2], [3]], [[0, 1], [0, 1], [2], [3]], [[0, 1, 2], [0, 1, 2], [0, 1, 2], [3]], [[1, 0, 2], [1, 0, 2], [1, 0, 2], [3]], [[0, 2, 1], [0, 2, 1], [0, 2, 1], [3]]]
  | _ => [[[0], [1], [2], [3]], [[0], [1], [2, 3], [2, 3]], [[0], [1, 3], [2], [1, 3]], [[0], [1, 2], [1, 2], [3]], [[0, 3], [1], [2], [0, 3]], [[0, 2], [1], [0, 2], [3]], [[0, 1], [0, 1], [2], [3]], [[0], [1, 2, 3], [1, 2, 3], [1, 2, 3]], [[0, 2, 3], [1], [0, 2, 3], [0, 2, 3]], [[0, 1], [0, 1], [2, 3], [2, 3]], [[0], [2, 1, 3], [2, 1, 3], [2, 1, 3]], [[0], [1, 3, 2], [1, 3, 2], [1, 3, 2]], [[0, 1, 3], [0, 1, 3], [2], [0, 1, 3]], [[0, 2], [1, 3], [0, 2], [1, 3]], [[0, 3], [1, 2], [1, 2], [0, 3]], [[0, 1, 2], [0, 1, 2], [0, 1, 2], [3]], [[2, 0, 3], [1], [2, 0, 3], [2, 0, 3]], [[1, 0, 3], [1, 0, 3], [2], [1, 0, 3]], [[0, 3, 2], [1], [0, 3, 2], [0, 3, 2]], [[0, 3, 1], [0, 3, 1], [2], [0, 3, 1]], [[1, 0, 2], [1, 0, 2], [1, 0, 2], [3]], [[0, 2, 1], [0, 2, 1], [0, 2, 1], [3]], [[0, 1, 2, 3], [0, 1, 2, 3], [0, 1, 2, 3], [0, 1, 2, 3]], [[1, 0, 2, 3], [1, 0, 2, 3], [1, 0, 2, 3], [1, 0, 2, 3]], [[0, 2, 3, 1], [0, 2, 3, 1], [0, 2, 3, 1], [0, 2, 3, 1]], [[0, 2, 1, 3], [0, 2, 1, 3], [0, 2, 1, 3], [0, 2, 1, 3]], [[0, 1, 3, 2], [0, 1, 3, 2], [0, 1, 3, 2], [0, 1, 3, 2]], [[2, 0, 1, 3], [2, 0, 1, 3], [2, 0, 1, 3], [2, 0, 1, 3]], [[1, 3, 0, 2], [1, 3, 0, 2], [1, 3, 0, 2], [1, 3, 0, 2]], [[1, 2, 0, 3], [1, 2, 0, 3], [1, 2, 0, 3], [1, 2, 0, 3]], [[0, 3, 1, 2], [0, 3, 1, 2], [0, 3, 1, 2], [0, 3, 1, 2]], [[2, 0, 3, 1], [2, 0, 3, 1], [2, 0, 3, 1], [2, 0, 3, 1]], [[2, 1, 0, 3], [2, 1, 0, 3], [2, 1, 0, 3], [2, 1, 0, 3]], [[1, 0, 3, 2], [1, 0, 3, 2], [1, 0, 3, 2], [1, 0, 3, 2]], [[0, 3, 2, 1], [0, 3, 2, 1], [0, 3, 2, 1], [0, 3, 2, 1]]]
noncomputable def clOk (i : Nat) : Bool := (nears i).all fun f => (List.range 12).all fun n => (nears i).contains (stepP (LV i) f (clm n)) && code (stepP (LV i) f (clm n)) == JJ (LV i) (code f) n
theorem clOk0 : clOk 0 = true := by decide +kernel
theorem clOk1 : clOk 1 = true := by decide +kernel
theorem clOk2 : clOk 2 = true := by decide +kernel
theorem clOk3 : clOk 3 = true := by decide +kernel
theorem clOk4 : clOk 4 = true := by decide +kernel
/-- the codes of `nears` -/
noncomputable def codesL : Nat → List (List Nat)
  | 0 => [[0, 1, 2, 3], [0, 1, 2, 2], [0, 1, 2, 1], [0, 1, 1, 3], [0, 1, 1, 1]]
  | 1 => [[0, 1, 2, 3], [0, 1, 2, 2], [0, 1, 2, 0], [0, 1, 0, 3], [0, 1, 0, 0]]
  | 2 => [[0, 1, 2, 3], [0, 1, 2, 1], [0, 1, 2, 0], [0, 0, 2, 3], [0, 0, 2, 0]]
  | 3 => [[0, 1, 2, 3], [0, 1, 1, 3], [0, 1, 0, 3], [0, 0, 2, 3], [0, 0, 0, 3]]
  | _ => [[0, 1, 2, 3], [0, 1, 2, 2], [0, 1, 2, 1], [0, 1, 1, 3], [0, 1, 2, 0], [0, 1, 0, 3], [0, 0, 2, 3], [0, 1, 1, 1], [0, 1, 0, 0], [0, 0, 2, 2], [0, 0, 2, 0], [0, 1, 0, 1], [0, 1, 1, 0], [0, 0, 0, 3], [0, 0, 0, 0]]
noncomputable def cmOk (i : Nat) : Bool := ((nears i).all fun f => (codesL i).contains (code f)) && (codesL i).all fun z => (List.range 12).all fun n => (List.range n).all fun m => JJ (LV i) (JJ (LV i) z n) m == JJ (LV i) (JJ (LV i) z m) n
theorem cmOk0 : cmOk 0 = true := by decide +kernel
theorem cmOk1 : cmOk 1 = true := by decide +kernel
theorem cmOk2 : cmOk 2 = true := by decide +kernel
theorem cmOk3 : cmOk 3 = true := by decide +kernel
theorem cmOk4 : cmOk 4 = true := by decide +kernel
theorem clOk_of (i : Nat) (hi : i < 5) : clOk i = true := by
  match i, hi with
  | 0, _ => exact clOk0
  | 1, _ => exact clOk1
  | 2, _ => exact clOk2
  | 3, _ => exact clOk3
  | 4, _ => exact clOk4
theorem cmOk_of (i : Nat) (hi : i < 5) : cmOk i = true := by
  match i, hi with
  | 0, _ => exact cmOk0
  | 1, _ => exact cmOk1
  | 2, _ => exact cmOk2
  | 3, _ => exact cmOk3
  | 4, _ => exact cmOk4
theorem near0_in : ∀ i < 5, near0 ∈ nears i := by decide +kernel
theorem near_fold (i : Nat) (hi : i < 5) : ∀ (m : List Nat), (∀ x ∈ m, x < 12) → ∀ f ∈ nears i, (m.map clm).foldl (stepP (LV i)) f ∈ nears i ∧ code ((m.map clm).foldl (stepP (LV i)) f) = m.foldl (JJ (LV i)) (code f) := by
  intro m
  induction m with
  | nil => intro _ f hf; exact ⟨hf, rfl⟩
  | cons x m ih =>
    intro hm f hf
    have h := all_range (List.all_eq_true.mp (clOk_of i hi) f hf) x (hm x (.head _))
    rw [Bool.and_eq_true, List.contains_iff_mem, beq_iff_eq] at h
    have := ih (fun y hy => hm y (.tail _ hy)) _ h.1
    rw [h.2] at this
    exact this
theorem near_at (i : Nat) (hi : i < 5) (m : List Nat) (hm : ∀ x ∈ m, x < 12) : nearP (LV i) (m.map clm) ∈ nears i ∧ code (nearP (LV i) (m.map clm)) = m.foldl (JJ (LV i)) cz := near_fold i hi m hm near0 (near0_in i hi)
/-- the codes that are reached -/
noncomputable def InC (i : Nat) (z : List Nat) : Prop := ∃ f ∈ nears i, code f = z
theorem InC.step {i : Nat} (hi : i < 5) {z : List Nat} (h : InC i z) (n : Nat) (hn : n < 12) : InC i (JJ (LV i) z n) := by
  obtain ⟨f, hf, rfl⟩ := h
  have h := all_range (List.all_eq_true.mp (clOk_of i hi) f hf) n hn
  rw [Bool.and_eq_true, List.contains_iff_mem, beq_iff_eq] at h
  exact ⟨_, h.1, h.2⟩
theorem InC.swap {i : Nat} (hi : i < 5) {z : List Nat} (h : InC i z) (n m : Nat) (hn : n < 12) (hm : m < 12) : JJ (LV i) (JJ (LV i) z n) m = JJ (LV i) (JJ (LV i) z m) n := by
  obtain ⟨f, hf, rfl⟩ := h
  obtain ⟨c1, c2⟩ := Bool.and_eq_true_iff.mp (cmOk_of i hi)
  have c3 := List.all_eq_true.mp c2 (code f) (List.contains_iff_mem.mp (List.all_eq_true.mp c1 f hf))
  have key : ∀ n m, n < 12 → m < n → JJ (LV i) (JJ (LV i) (code f) n) m = JJ (LV i) (JJ (LV i) (code f) m) n := fun n m hn h => beq_iff_eq.mp (all_range (all_range c3 n hn) m h)
  rcases Nat.lt_trichotomy n m with h | h | h
  · exact (key m n hm h).symm
  · rw [h]
  · exact key n m hn h
theorem fold_perm {i : Nat} (hi : i < 5) {l m : List Nat} (p : l.Perm m) : (∀ x ∈ l, x < 12) → ∀ z, InC i z → l.foldl (JJ (LV i)) z = m.foldl (JJ (LV i)) z := by
  induction p with
  | nil => intro _ z _; rfl
  | cons x _ ih => intro h z hz; exact ih (fun y hy => h y (.tail _ hy)) _ (hz.step hi x (h x (.head _)))
  | swap x y l =>
    intro h z hz
    simp only [List.foldl_cons]
    rw [hz.swap hi y x (h y (.head _)) (h x (.tail _ (.head _)))]
  | trans p q ih1 ih2 => intro h z hz; exact (ih1 h z hz).trans (ih2 (fun x hx => h x (p.mem_iff.mpr hx)) z hz)
noncomputable def bits (l : List Nat) : List Nat := (List.range 12).filter l.contains
theorem bits_perm {l : List Nat} (hn : l.Nodup) (hl : ∀ x ∈ l, x < 12) : l.Perm (bits l) := by
  refine (List.perm_ext_iff_of_nodup hn (List.Pairwise.filter _ List.nodup_range)).mpr fun a => ?_
  show a ∈ l ↔ a ∈ (List.range 12).filter l.contains
  rw [List.mem_filter, List.mem_range, List.contains_iff_mem]
  exact ⟨fun h => ⟨hl a h, h⟩, fun h => h.2⟩
/-- the code of the claims `l`, for the leaves `LV i` -/
noncomputable def cd (i : Nat) (l : List Nat) : List Nat := l.foldl (JJ (LV i)) cz
theorem cd_bits {i : Nat} (hi : i < 5) {l : List Nat} (hn : l.Nodup) (hl : ∀ x ∈ l, x < 12) : cd i l = cd i (bits l) := fold_perm hi (bits_perm hn hl) hl cz ⟨near0, near0_in i hi, rfl⟩
noncomputable def ZL (l : List Nat) : Bool := ZZ (cd 0 l) (cd 1 l) (cd 2 l) (cd 3 l) (cd 4 l)
noncomputable def inner (l : List Nat) : List Nat := pick (cd 0 l) (cd 1 l) (cd 2 l) (cd 3 l) (cd 4 l) (triI (cd 4 l))
theorem all_bits {l : List Nat} (hl : ∀ x ∈ l, x < 12) (p : Nat → Bool) : (bits l).all p = l.all p := by
  rw [Bool.eq_iff_iff, List.all_eq_true, List.all_eq_true]
  refine ⟨fun h x hx => h x ?_, fun h x hx => h x ?_⟩
  · show x ∈ (List.range 12).filter l.contains
    rw [List.mem_filter, List.mem_range, List.contains_iff_mem]; exact ⟨hl x hx, hx⟩
  · have hx : x ∈ (List.range 12).filter l.contains := hx
    rw [List.mem_filter, List.contains_iff_mem] at hx; exact hx.2
noncomputable def fits (l : List Nat) : List (List Nat) := T0.filter fun t => l.all t.contains
theorem law_of {l : List Nat} (hn : l.Nodup) (hl : ∀ x ∈ l, x < 12) : ZL l = (fits l).isEmpty ∧
    (fits l ≠ [] → (∀ n ∈ l, shownZ (cd 4 l) (inner l) n = true) ∧ ∃ t ∈ fits l, ∀ n < 12, shownZ (cd 4 l) (inner l) n = true → n ∈ t) := by
  have h := chk_sound l.contains (List.range 12) (fun x hx => List.mem_range.mp hx) [] T0 cz cz cz cz cz chk_all
  rw [show (List.range 12).filter l.contains = bits l from rfl] at h
  have ft : T0.filter (fun t => (bits l).all t.contains) = fits l := by
    unfold fits; congr 1; funext t; exact all_bits hl _
  rw [ft] at h
  have c : ∀ i, i < 5 → (bits l).foldl (JJ (LV i)) cz = cd i l := fun i hi => (cd_bits hi hn hl).symm
  rw [c 0 (by omega), c 1 (by omega), c 2 (by omega), c 3 (by omega), c 4 (by omega), List.nil_append] at h
  rcases h with ⟨h1, h2⟩ | h
  · rw [h1]; exact ⟨h2, fun q => absurd rfl q⟩
  · unfold leafOk at h
    by_cases he : (fits l).isEmpty = true
    · rw [if_pos he] at h
      rw [List.isEmpty_iff.mp he]
      exact ⟨h, fun q => absurd rfl q⟩
    · rw [if_neg he] at h
      simp only [Bool.and_eq_true, Bool.not_eq_true'] at h
      obtain ⟨⟨h1, h2⟩, h3⟩ := h
      rw [all_bits hl, List.all_eq_true] at h2
      obtain ⟨t, ht, h3⟩ := List.any_eq_true.mp h3
      refine ⟨by rw [Bool.not_eq_true] at he; rw [he]; exact h1, fun _ => ⟨h2, t, ht, fun n hn hs => ?_⟩⟩
      have := all_range h3 n hn
      unfold inner at hs
      rw [hs] at this
      simpa using this
end Mine


namespace Mine
noncomputable def partsN (f : List (List Nat)) (l : List Nat) : List (List Nat) := dedup [] (l.map fun x => f.getD x [])
/-- `grownO` from a table of what is near -/
noncomputable def grownN : Nat → (List Nat → List (List Nat)) → List Nat → Str → Option (List (Nat × Str))
  | 0, _, _, _ => none
  | n + 1, N, leaves, here =>
    if hereOk here then
      (if (partsN (N leaves) leaves).length = 1 then some [] else waysO (grownN n N) here (partsN (N leaves) leaves) [])
    else none
theorem waysO_congr {rec rec' : List Nat → Str → Option (List (Nat × Str))} {here : Str} : ∀ (ps : List (List Nat)) (ws : List (Nat × Str)), (∀ p ∈ ps, ∀ way, rec p way = rec' p way) → waysO rec here ps ws = waysO rec' here ps ws := by
  intro ps
  induction ps with
  | nil => intro ws _; rfl
  | cons p ps ih =>
    intro ws h
    unfold waysO
    rw [h p (.head _) (joinP here (nameP p))]
    cases (if p.length = 1 then some [(p.headD 0, joinP here (nameP p))] else rec' p (joinP here (nameP p))) with
    | none => rfl
    | some below =>
      dsimp only
      rw [ih (ws ++ below) fun q hq => h q (.tail _ hq)]
theorem grownN_congr {cl : List (Nat × Nat × Nat)} {N : List Nat → List (List Nat)} (P : List Nat → Prop) (hP : ∀ l, P l → nearP l cl = N l ∧ ∀ p ∈ partsN (N l) l, P p) : ∀ (n : Nat) (l : List Nat) (here : Str), P l → grownO n cl l here = grownN n N l here := by
  intro n
  induction n with
  | zero => intro l here _; rfl
  | succ n ih =>
    intro l here h
    obtain ⟨h1, h2⟩ := hP l h
    unfold grownO grownN
    rw [h1]
    show (if hereOk here = true then (if (partsN (N l) l).length = 1 then some [] else waysO (grownO n cl) here (partsN (N l) l) []) else none) = _
    rw [waysO_congr (partsN (N l) l) [] fun p hp way => ih p way (h2 p hp)]
/-- the lists of leaves that are asked for when the full code's part of three is all but `i` -/
noncomputable def PB (i : Nat) (l : List Nat) : Bool := l == [0, 1, 2, 3] || decide (l.length ≤ 2) || (decide (i < 4) && (l.length == 3 && ((LV i).all l.contains && l.all (LV i).contains)))
noncomputable def NN (f g : List (List Nat)) (l : List Nat) : List (List Nat) := if l == [0, 1, 2, 3] then f else if l.length == 3 then g else near0
theorem clm_distinct : ∀ n < 12, [(clm n).1, (clm n).2.1, (clm n).2.2].Nodup := by decide +kernel
theorem clm_low : ∀ n < 12, (clm n).1 < 4 ∧ (clm n).2.1 < 4 ∧ (clm n).2.2 < 4 := by decide +kernel
theorem nearP_short {l : List Nat} (hl : l.length ≤ 2) (m : List Nat) (hm : ∀ x ∈ m, x < 12) : nearP l (m.map clm) = near0 := by
  have step : ∀ (f : List (List Nat)), ∀ n < 12, stepP l f (clm n) = f := by
    intro f n hn
    unfold stepP
    rw [if_neg]
    intro h
    simp only [Bool.and_eq_true, List.contains_iff_mem] at h
    have := List.Nodup.length_le_of_subset (clm_distinct n hn) (l₂ := l) (by
      intro x hx
      simp only [List.mem_cons, List.not_mem_nil, or_false] at hx
      rcases hx with rfl | rfl | rfl
      · exact h.1
      · exact h.2.1
      · exact h.2.2)
    simp at this
    omega
  unfold nearP
  induction m with
  | nil => rfl
  | cons x m ih =>
    rw [List.map_cons, List.foldl_cons, step _ x (hm x (.head _))]
    exact ih fun y hy => hm y (.tail _ hy)
theorem nearP_same {l l' : List Nat} (h : ∀ x, l.contains x = l'.contains x) (cl : List (Nat × Nat × Nat)) : nearP l cl = nearP l' cl := by
  have : stepP l = stepP l' := by funext f c; unfold stepP; rw [h, h, h]
  unfold nearP; rw [this]
theorem near0_short (x : Nat) : (near0.getD x []).length ≤ 2 := by
  match x with
  | 0 => decide
  | 1 => decide
  | 2 => decide
  | 3 => decide
  | _ + 4 => simp [near0, List.getD_eq_getElem?_getD]
noncomputable def partOk4 : Bool := (nears 4).all fun f => code f == cT 4 || (partsN f [0, 1, 2, 3]).all (PB (triI (code f)))
theorem partOk4_ok : partOk4 = true := by decide +kernel
noncomputable def partOk3 (i : Nat) : Bool := (nears i).all fun g => (List.range 4).all fun x => x == i || PB i (g.getD x [])
theorem partOk3_ok : ∀ i < 4, partOk3 i = true := by decide +kernel
theorem parts_one : ((nears 4).all fun f => code f != cT 4 || (partsN f [0, 1, 2, 3]).length == 1) = true := by decide +kernel
theorem LV_low : ∀ i < 4, ∀ x ∈ LV i, x < 4 ∧ x ≠ i := by decide +kernel
theorem mem_partsN {f : List (List Nat)} {l p : List Nat} (h : p ∈ partsN f l) : ∃ x ∈ l, f.getD x [] = p := by
  unfold partsN at h
  rw [dedup_mem] at h
  rcases h with h | h
  · cases h
  · exact List.mem_map.mp h
noncomputable def nF (m : List Nat) : List (List Nat) := nearP (LV 4) (m.map clm)
noncomputable def nG (m : List Nat) : List (List Nat) := if triI (cd 4 m) < 4 then nearP (LV (triI (cd 4 m))) (m.map clm) else near0
noncomputable def nearsG (i : Nat) : List (List (List Nat)) := if i < 4 then nears i else [near0]
theorem triI_le (e : List Nat) : triI e < 5 := by unfold triI; repeat' split <;> try omega
theorem grown_conn {m : List Nat} (hm : ∀ x ∈ m, x < 12) (h : cd 4 m = cT 4) : grownO 3 (m.map clm) [0, 1, 2, 3] slash = some [] := by
  obtain ⟨h1, h2⟩ := near_at 4 (by omega) m hm
  have := List.all_eq_true.mp parts_one _ h1
  rw [h2] at this
  have c : m.foldl (JJ (LV 4)) cz = cT 4 := h
  rw [c] at this
  have l1 : (partsN (nearP (LV 4) (m.map clm)) [0, 1, 2, 3]).length = 1 := by simpa using this
  unfold grownO
  rw [if_pos (by decide +kernel)]
  exact if_pos l1
theorem grown_NN {m : List Nat} (hm : ∀ x ∈ m, x < 12) (h : cd 4 m ≠ cT 4) : grownO 3 (m.map clm) [0, 1, 2, 3] slash = grownN 3 (NN (nF m) (nG m)) [0, 1, 2, 3] slash := by
  obtain ⟨h1, h2⟩ := near_at 4 (by omega) m hm
  have h2 : code (nF m) = cd 4 m := h2
  refine grownN_congr (fun l => PB (triI (cd 4 m)) l = true) (fun l hl => ?_) 3 _ _ (by simp [PB])
  by_cases l4 : l = [0, 1, 2, 3]
  · subst l4
    refine ⟨rfl, fun p hp => ?_⟩
    have := List.all_eq_true.mp partOk4_ok _ h1
    rw [show nearP (LV 4) (m.map clm) = nF m from rfl, h2, Bool.or_eq_true, beq_iff_eq] at this
    exact List.all_eq_true.mp (this.resolve_left h) p hp
  · have l4' : (l == [0, 1, 2, 3]) = false := by simpa using l4
    unfold PB at hl
    rw [l4', Bool.false_or, Bool.or_eq_true, decide_eq_true_eq] at hl
    by_cases l2 : l.length ≤ 2
    · have e : NN (nF m) (nG m) l = near0 := by
        unfold NN
        rw [l4', if_neg (by decide), if_neg (by simp only [beq_iff_eq]; omega)]
      refine ⟨by rw [e]; exact nearP_short l2 m hm, fun p hp => ?_⟩
      rw [e] at hp
      obtain ⟨x, _, rfl⟩ := mem_partsN hp
      unfold PB
      rw [decide_eq_true (near0_short x)]; simp
    · have hl := hl.resolve_left l2
      simp only [Bool.and_eq_true, decide_eq_true_eq, beq_iff_eq] at hl
      obtain ⟨i4, l3, s1, s2⟩ := hl
      have e : NN (nF m) (nG m) l = nG m := by
        unfold NN
        rw [l4', if_neg (by decide), if_pos (by rw [l3]; rfl)]
      have same : ∀ x, l.contains x = (LV (triI (cd 4 m))).contains x := by
        intro x
        rw [Bool.eq_iff_iff]
        refine ⟨fun hx => List.all_eq_true.mp s2 x (List.contains_iff_mem.mp hx), fun hx => List.all_eq_true.mp s1 x (List.contains_iff_mem.mp hx)⟩
      refine ⟨by rw [e, nG, if_pos i4]; exact nearP_same same _, fun p hp => ?_⟩
      rw [e, nG, if_pos i4] at hp
      obtain ⟨x, hx, rfl⟩ := mem_partsN hp
      have hx' := LV_low _ i4 x (List.contains_iff_mem.mp ((same x) ▸ List.contains_iff_mem.mpr hx))
      have := all_range (List.all_eq_true.mp (partOk3_ok _ i4) _ (near_at _ (by omega) m hm).1) x hx'.1
      rw [Bool.or_eq_true, beq_iff_eq] at this
      exact this.resolve_left hx'.2
theorem pick_cd (l : List Nat) : ∀ i, pick (cd 0 l) (cd 1 l) (cd 2 l) (cd 3 l) (cd 4 l) i = cd (min i 4) l := by
  intro i
  match i with
  | 0 => rfl
  | 1 => rfl
  | 2 => rfl
  | 3 => rfl
  | n + 4 => rw [show min (n + 4) 4 = 4 by omega]; rfl
theorem inner_is (l : List Nat) : inner l = cd (triI (cd 4 l)) l := by
  unfold inner
  rw [pick_cd, Nat.min_eq_left (by have := triI_le (cd 4 l); omega)]
theorem nG_is {m : List Nat} (hm : ∀ x ∈ m, x < 12) : nG m ∈ nearsG (triI (cd 4 m)) ∧ (triI (cd 4 m) < 4 → code (nG m) = inner m) := by
  rw [inner_is]
  unfold nG nearsG
  by_cases h : triI (cd 4 m) < 4
  · rw [if_pos h, if_pos h]
    exact ⟨(near_at _ (triI_le _) m hm).1, fun _ => (near_at _ (triI_le _) m hm).2⟩
  · rw [if_neg h, if_neg h]
    exact ⟨.head _, fun q => absurd q h⟩
theorem nF_is {m : List Nat} (hm : ∀ x ∈ m, x < 12) : nF m ∈ nears 4 ∧ code (nF m) = cd 4 m := near_at 4 (by omega) m hm
noncomputable def ZI (e g : List Nat) : Bool := decide (triI e < 4) && (g == cT (triI e))
theorem ZL_is (l : List Nat) (h : cd 4 l ≠ cT 4) : ZL l = ZI (cd 4 l) (inner l) := by
  rw [inner_is]
  unfold ZL ZZ ZI triI
  have h' : (cd 4 l == cT 4) = false := by simpa using h
  rw [h']
  by_cases e0 : cd 4 l = cT 0
  · rw [e0]; simp [show (cT 0 == cT 1) = false by decide, show (cT 0 == cT 2) = false by decide, show (cT 0 == cT 3) = false by decide]
  by_cases e1 : cd 4 l = cT 1
  · rw [e1]; simp [show (cT 1 == cT 0) = false by decide, show (cT 1 == cT 2) = false by decide, show (cT 1 == cT 3) = false by decide]
  by_cases e2 : cd 4 l = cT 2
  · rw [e2]; simp [show (cT 2 == cT 0) = false by decide, show (cT 2 == cT 1) = false by decide, show (cT 2 == cT 3) = false by decide]
  by_cases e3 : cd 4 l = cT 3
  · rw [e3]; simp [show (cT 3 == cT 0) = false by decide, show (cT 3 == cT 1) = false by decide, show (cT 3 == cT 2) = false by decide]
  simp [show (cd 4 l == cT 0) = false by simpa using e0, show (cd 4 l == cT 1) = false by simpa using e1, show (cd 4 l == cT 2) = false by simpa using e2, show (cd 4 l == cT 3) = false by simpa using e3]
end Mine


namespace Mine
/-- the ways in the order of the leaves -/
noncomputable def wD (W : List (Nat × Str)) : Option PyData := compD (seqL (sortLD (fun _ => some (eW W)))) [none, none] (.tup [0, 1]) (fun _ => some true) (fun ρ => rget ρ 1) []
noncomputable def stOf : List PyData → Option (List Str)
  | [] => some []
  | .str x :: l => match stOf l with
    | some m => some (x :: m)
    | none => none
  | _ => none
theorem stOf_of : ∀ {l : List PyData} {m : List Str}, stOf l = some m → l = m.map .str := by
  intro l
  induction l with
  | nil => intro m h; cases h; rfl
  | cons x l ih =>
    intro m h
    cases x <;> try (cases h; done)
    unfold stOf at h
    split at h
    · rename_i m' e; cases h; rw [ih e]; rfl
    · cases h
noncomputable def wS (W : List (Nat × Str)) : Option (List Str) := match wD W with
  | some (.list l) => stOf l
  | _ => none
theorem wS_of {W : List (Nat × Str)} {m : List Str} (h : wS W = some m) : wD W = some (.list (m.map .str)) := by
  unfold wS at h
  split at h
  · rename_i l e; rw [e, stOf_of h]
  · cases h
noncomputable def ρS (p : List Str) : Rho := [none, none, none, none, none, none, none, none, none, none, none, some (.list (p.map .str)), none, none, none, none]
noncomputable def gn : List PyData → Option PyData := fun _ => none
noncomputable def condE (ρ : Rho) : Option Bool := cmp neC (sortSD (joinDD (fun _ => some (.str "")) (compD (seqL (fun ρ => rget ρ 11)) [none] (.one 0) (fun _ => some true) (bin itemD (methD splitF (fun ρ => rget ρ 0) (fun _ => some (.str "/"))) (fun _ => some (.int 1)))))) (listD (consD (fun _ => some (.str "a")) (consD (fun _ => some (.str "b")) (consD (fun _ => some (.str "c")) (consD (fun _ => some (.str "d")) (fun _ => some [])))))) ρ
noncomputable def natOf : List PyData → Option (List Nat)
  | [] => some []
  | .int x :: l => match natOf l with
    | some m => if 0 ≤ x then some (x.toNat :: m) else none
    | none => none
  | _ => none
theorem natOf_of : ∀ {l : List PyData} {m : List Nat}, natOf l = some m → l = m.map eN := by
  intro l
  induction l with
  | nil => intro m h; cases h; rfl
  | cons x l ih =>
    intro m h
    cases x <;> try (cases h; done)
    rename_i x
    unfold natOf at h
    split at h
    · rename_i m' e
      split at h
      · rename_i hx
        cases h; rw [ih e, List.map_cons, eN, Int.toNat_of_nonneg hx]
      · cases h
    · cases h
noncomputable def claimsE : PyData := .list (clms.map eC)
noncomputable def ρD (D : PyData) : Rho := [none, some claimsE, none, none, none, none, none, none, none, none, none, none, some D, none, none, none]
noncomputable def chkS (p : List Str) (s : List Nat) : Bool := condE (ρS p) == some false && (match dL_32 gn (ρS p) with
  | some D => (match dL_34 gn (ρD D) with
    | some (.list l) => natOf l == some s
    | _ => false)
  | none => false)
noncomputable def P (l : List (List Nat)) : List Str := l.map fun x => ⟨x.toArray⟩
noncomputable def sp0 : List (List Nat) := [[47, 97], [47, 98], [47, 99], [47, 100]]
noncomputable def sh0 : List Nat := []
theorem chkS0 : chkS (P sp0) sh0 = true := by decide +kernel
noncomputable def sp1 : List (List Nat) := [[47, 97], [47, 98], [47, 99, 100, 47, 99], [47, 99, 100, 47, 100]]
noncomputable def sh1 : List Nat := [0, 3]
theorem chkS1 : chkS (P sp1) sh1 = true := by decide +kernel
noncomputable def sp2 : List (List Nat) := [[47, 97], [47, 98, 100, 47, 98], [47, 99], [47, 98, 100, 47, 100]]
noncomputable def sh2 : List Nat := [1, 6]
theorem chkS2 : chkS (P sp2) sh2 = true := by decide +kernel
noncomputable def sp3 : List (List Nat) := [[47, 97], [47, 98, 99, 47, 98], [47, 98, 99, 47, 99], [47, 100]]
noncomputable def sh3 : List Nat := [2, 9]
theorem chkS3 : chkS (P sp3) sh3 = true := by decide +kernel
noncomputable def sp4 : List (List Nat) := [[47, 97, 100, 47, 97], [47, 98], [47, 99], [47, 97, 100, 47, 100]]
noncomputable def sh4 : List Nat := [4, 7]
theorem chkS4 : chkS (P sp4) sh4 = true := by decide +kernel
noncomputable def sp5 : List (List Nat) := [[47, 97, 99, 47, 97], [47, 98], [47, 97, 99, 47, 99], [47, 100]]
noncomputable def sh5 : List Nat := [5, 10]
theorem chkS5 : chkS (P sp5) sh5 = true := by decide +kernel
noncomputable def sp6 : List (List Nat) := [[47, 97, 98, 47, 97], [47, 97, 98, 47, 98], [47, 99], [47, 100]]
noncomputable def sh6 : List Nat := [8, 11]
theorem chkS6 : chkS (P sp6) sh6 = true := by decide +kernel
noncomputable def sp7 : List (List Nat) := [[47, 97], [47, 98, 99, 100, 47, 98], [47, 98, 99, 100, 47, 99], [47, 98, 99, 100, 47, 100]]
noncomputable def sh7 : List Nat := [3, 6, 9]
theorem chkS7 : chkS (P sp7) sh7 = true := by decide +kernel
noncomputable def sp8 : List (List Nat) := [[47, 97], [47, 98, 99, 100, 47, 98], [47, 98, 99, 100, 47, 99, 100, 47, 99], [47, 98, 99, 100, 47, 99, 100, 47, 100]]
noncomputable def sh8 : List Nat := [0, 3, 6, 9]
theorem chkS8 : chkS (P sp8) sh8 = true := by decide +kernel
noncomputable def sp9 : List (List Nat) := [[47, 97], [47, 98, 99, 100, 47, 98, 100, 47, 98], [47, 98, 99, 100, 47, 99], [47, 98, 99, 100, 47, 98, 100, 47, 100]]
noncomputable def sh9 : List Nat := [1, 3, 6, 9]
theorem chkS9 : chkS (P sp9) sh9 = true := by decide +kernel
noncomputable def sp10 : List (List Nat) := [[47, 97], [47, 98, 99, 100, 47, 98, 99, 47, 98], [47, 98, 99, 100, 47, 98, 99, 47, 99], [47, 98, 99, 100, 47, 100]]
noncomputable def sh10 : List Nat := [2, 3, 6, 9]
theorem chkS10 : chkS (P sp10) sh10 = true := by decide +kernel
noncomputable def sp11 : List (List Nat) := [[47, 97, 99, 100, 47, 97], [47, 98], [47, 97, 99, 100, 47, 99], [47, 97, 99, 100, 47, 100]]
noncomputable def sh11 : List Nat := [0, 7, 10]
theorem chkS11 : chkS (P sp11) sh11 = true := by decide +kernel
noncomputable def sp12 : List (List Nat) := [[47, 97, 99, 100, 47, 97], [47, 98], [47, 97, 99, 100, 47, 99, 100, 47, 99], [47, 97, 99, 100, 47, 99, 100, 47, 100]]
noncomputable def sh12 : List Nat := [0, 3, 7, 10]
theorem chkS12 : chkS (P sp12) sh12 = true := by decide +kernel
noncomputable def sp13 : List (List Nat) := [[47, 97, 99, 100, 47, 97, 100, 47, 97], [47, 98], [47, 97, 99, 100, 47, 99], [47, 97, 99, 100, 47, 97, 100, 47, 100]]
noncomputable def sh13 : List Nat := [0, 4, 7, 10]
theorem chkS13 : chkS (P sp13) sh13 = true := by decide +kernel
noncomputable def sp14 : List (List Nat) := [[47, 97, 99, 100, 47, 97, 99, 47, 97], [47, 98], [47, 97, 99, 100, 47, 97, 99, 47, 99], [47, 97, 99, 100, 47, 100]]
noncomputable def sh14 : List Nat := [0, 5, 7, 10]
theorem chkS14 : chkS (P sp14) sh14 = true := by decide +kernel
noncomputable def sp15 : List (List Nat) := [[47, 97, 98, 47, 97], [47, 97, 98, 47, 98], [47, 99, 100, 47, 99], [47, 99, 100, 47, 100]]
noncomputable def sh15 : List Nat := [0, 3, 8, 11]
theorem chkS15 : chkS (P sp15) sh15 = true := by decide +kernel
noncomputable def sp16 : List (List Nat) := [[47, 97, 98, 100, 47, 97], [47, 97, 98, 100, 47, 98], [47, 99], [47, 97, 98, 100, 47, 100]]
noncomputable def sh16 : List Nat := [1, 4, 11]
theorem chkS16 : chkS (P sp16) sh16 = true := by decide +kernel
noncomputable def sp17 : List (List Nat) := [[47, 97, 98, 100, 47, 97], [47, 97, 98, 100, 47, 98, 100, 47, 98], [47, 99], [47, 97, 98, 100, 47, 98, 100, 47, 100]]
noncomputable def sh17 : List Nat := [1, 4, 6, 11]
theorem chkS17 : chkS (P sp17) sh17 = true := by decide +kernel
noncomputable def sp18 : List (List Nat) := [[47, 97, 98, 100, 47, 97, 100, 47, 97], [47, 97, 98, 100, 47, 98], [47, 99], [47, 97, 98, 100, 47, 97, 100, 47, 100]]
noncomputable def sh18 : List Nat := [1, 4, 7, 11]
theorem chkS18 : chkS (P sp18) sh18 = true := by decide +kernel
noncomputable def sp19 : List (List Nat) := [[47, 97, 98, 100, 47, 97, 98, 47, 97], [47, 97, 98, 100, 47, 97, 98, 47, 98], [47, 99], [47, 97, 98, 100, 47, 100]]
noncomputable def sh19 : List Nat := [1, 4, 8, 11]
theorem chkS19 : chkS (P sp19) sh19 = true := by decide +kernel
noncomputable def sp20 : List (List Nat) := [[47, 97, 99, 47, 97], [47, 98, 100, 47, 98], [47, 97, 99, 47, 99], [47, 98, 100, 47, 100]]
noncomputable def sh20 : List Nat := [1, 5, 6, 10]
theorem chkS20 : chkS (P sp20) sh20 = true := by decide +kernel
noncomputable def sp21 : List (List Nat) := [[47, 97, 100, 47, 97], [47, 98, 99, 47, 98], [47, 98, 99, 47, 99], [47, 97, 100, 47, 100]]
noncomputable def sh21 : List Nat := [2, 4, 7, 9]
theorem chkS21 : chkS (P sp21) sh21 = true := by decide +kernel
noncomputable def sp22 : List (List Nat) := [[47, 97, 98, 99, 47, 97], [47, 97, 98, 99, 47, 98], [47, 97, 98, 99, 47, 99], [47, 100]]
noncomputable def sh22 : List Nat := [2, 5, 8]
theorem chkS22 : chkS (P sp22) sh22 = true := by decide +kernel
noncomputable def sp23 : List (List Nat) := [[47, 97, 98, 99, 47, 97], [47, 97, 98, 99, 47, 98, 99, 47, 98], [47, 97, 98, 99, 47, 98, 99, 47, 99], [47, 100]]
noncomputable def sh23 : List Nat := [2, 5, 8, 9]
theorem chkS23 : chkS (P sp23) sh23 = true := by decide +kernel
noncomputable def sp24 : List (List Nat) := [[47, 97, 98, 99, 47, 97, 99, 47, 97], [47, 97, 98, 99, 47, 98], [47, 97, 98, 99, 47, 97, 99, 47, 99], [47, 100]]
noncomputable def sh24 : List Nat := [2, 5, 8, 10]
theorem chkS24 : chkS (P sp24) sh24 = true := by decide +kernel
noncomputable def sp25 : List (List Nat) := [[47, 97, 98, 99, 47, 97, 98, 47, 97], [47, 97, 98, 99, 47, 97, 98, 47, 98], [47, 97, 98, 99, 47, 99], [47, 100]]
noncomputable def sh25 : List Nat := [2, 5, 8, 11]
theorem chkS25 : chkS (P sp25) sh25 = true := by decide +kernel
noncomputable def shapes : List (List Str × List Nat) := [(P sp0, sh0), (P sp1, sh1), (P sp2, sh2), (P sp3, sh3), (P sp4, sh4), (P sp5, sh5), (P sp6, sh6), (P sp7, sh7), (P sp8, sh8), (P sp9, sh9), (P sp10, sh10), (P sp11, sh11), (P sp12, sh12), (P sp13, sh13), (P sp14, sh14), (P sp15, sh15), (P sp16, sh16), (P sp17, sh17), (P sp18, sh18), (P sp19, sh19), (P sp20, sh20), (P sp21, sh21), (P sp22, sh22), (P sp23, sh23), (P sp24, sh24), (P sp25, sh25)]
theorem shapes_ok : ∀ s ∈ shapes, chkS s.1 s.2 = true := List.forall_mem_cons.mpr ⟨chkS0, List.forall_mem_cons.mpr ⟨chkS1, List.forall_mem_cons.mpr ⟨chkS2, List.forall_mem_cons.mpr ⟨chkS3, List.forall_mem_cons.mpr ⟨chkS4, List.forall_mem_cons.mpr ⟨chkS5, List.forall_mem_cons.mpr ⟨chkS6, List.forall_mem_cons.mpr ⟨chkS7, List.forall_mem_cons.mpr ⟨chkS8, List.forall_mem_cons.mpr ⟨chkS9, List.forall_mem_cons.mpr ⟨chkS10, List.forall_mem_cons.mpr ⟨chkS11, List.forall_mem_cons.mpr ⟨chkS12, List.forall_mem_cons.mpr ⟨chkS13, List.forall_mem_cons.mpr ⟨chkS14, List.forall_mem_cons.mpr ⟨chkS15, List.forall_mem_cons.mpr ⟨chkS16, List.forall_mem_cons.mpr ⟨chkS17, List.forall_mem_cons.mpr ⟨chkS18, List.forall_mem_cons.mpr ⟨chkS19, List.forall_mem_cons.mpr ⟨chkS20, List.forall_mem_cons.mpr ⟨chkS21, List.forall_mem_cons.mpr ⟨chkS22, List.forall_mem_cons.mpr ⟨chkS23, List.forall_mem_cons.mpr ⟨chkS24, List.forall_mem_cons.mpr ⟨chkS25, fun _ h => nomatch h⟩⟩⟩⟩⟩⟩⟩⟩⟩⟩⟩⟩⟩⟩⟩⟩⟩⟩⟩⟩⟩⟩⟩⟩⟩⟩
noncomputable def chkE (f g : List (List Nat)) : Bool := match grownN 3 (NN f g) [0, 1, 2, 3] slash with
  | none => false
  | some W => if ZI (code f) (code g) then W.isEmpty else !W.isEmpty && waysOk W && (match wS W with
    | some p => shapes.any fun s => s.1 == p && (List.range 12).all fun n => s.2.contains n == shownZ (code f) (code g) n
    | none => false)
noncomputable def chkF (f : List (List Nat)) : Bool := code f == cT 4 || (nearsG (triI (code f))).all (chkE f)
noncomputable def nf0 : List (List Nat) := [[0], [1], [2], [3]]
theorem chkF0 : chkF nf0 = true := by decide +kernel
noncomputable def nf1 : List (List Nat) := [[0], [1], [2, 3], [2, 3]]
theorem chkF1 : chkF nf1 = true := by decide +kernel
noncomputable def nf2 : List (List Nat) := [[0], [1, 3], [2], [1, 3]]
theorem chkF2 : chkF nf2 = true := by decide +kernel
noncomputable def nf3 : List (List Nat) := [[0], [1, 2], [1, 2], [3]]
theorem chkF3 : chkF nf3 = true := by decide +kernel
noncomputable def nf4 : List (List Nat) := [[0, 3], [1], [2], [0, 3]]
theorem chkF4 : chkF nf4 = true := by decide +kernel
noncomputable def nf5 : List (List Nat) := [[0, 2], [1], [0, 2], [3]]
theorem chkF5 : chkF nf5 = true := by decide +kernel
noncomputable def nf6 : List (List Nat) := [[0, 1], [0, 1], [2], [3]]
theorem chkF6 : chkF nf6 = true := by decide +kernel
noncomputable def nf7 : List (List Nat) := [[0], [1, 2, 3], [1, 2, 3], [1, 2, 3]]
theorem chkF7 : chkF nf7 = true := by decide +kernel
noncomputable def nf8 : List (List Nat) := [[0, 2, 3], [1], [0, 2, 3], [0, 2, 3]]
theorem chkF8 : chkF nf8 = true := by decide +kernel
noncomputable def nf9 : List (List Nat) := [[0, 1], [0, 1], [2, 3], [2, 3]]
theorem chkF9 : chkF nf9 = true := by decide +kernel
noncomputable def nf10 : List (List Nat) := [[0], [2, 1, 3], [2, 1, 3], [2, 1, 3]]
theorem chkF10 : chkF nf10 = true := by decide +kernel
noncomputable def nf11 : List (List Nat) := [[0], [1, 3, 2], [1, 3, 2], [1, 3, 2]]
theorem chkF11 : chkF nf11 = true := by decide +kernel
noncomputable def nf12 : List (List Nat) := [[0, 1, 3], [0, 1, 3], [2], [0, 1, 3]]
theorem chkF12 : chkF nf12 = true := by decide +kernel
noncomputable def nf13 : List (List Nat) := [[0, 2], [1, 3], [0, 2], [1, 3]]
theorem chkF13 : chkF nf13 = true := by decide +kernel
noncomputable def nf14 : List (List Nat) := [[0, 3], [1, 2], [1, 2], [0, 3]]
theorem chkF14 : chkF nf14 = true := by decide +kernel
noncomputable def nf15 : List (List Nat) := [[0, 1, 2], [0, 1, 2], [0, 1, 2], [3]]
theorem chkF15 : chkF nf15 = true := by decide +kernel
noncomputable def nf16 : List (List Nat) := [[2, 0, 3], [1], [2, 0, 3], [2, 0, 3]]
theorem chkF16 : chkF nf16 = true := by decide +kernel
noncomputable def nf17 : List (List Nat) := [[1, 0, 3], [1, 0, 3], [2], [1, 0, 3]]
theorem chkF17 : chkF nf17 = true := by decide +kernel
noncomputable def nf18 : List (List Nat) := [[0, 3, 2], [1], [0, 3, 2], [0, 3, 2]]
theorem chkF18 : chkF nf18 = true := by decide +kernel
noncomputable def nf19 : List (List Nat) := [[0, 3, 1], [0, 3, 1], [2], [0, 3, 1]]
theorem chkF19 : chkF nf19 = true := by decide +kernel
noncomputable def nf20 : List (List Nat) := [[1, 0, 2], [1, 0, 2], [1, 0, 2], [3]]
theorem chkF20 : chkF nf20 = true := by decide +kernel
noncomputable def nf21 : List (List Nat) := [[0, 2, 1], [0, 2, 1], [0, 2, 1], [3]]
theorem chkF21 : chkF nf21 = true := by decide +kernel
noncomputable def nf22 : List (List Nat) := [[0, 1, 2, 3], [0, 1, 2, 3], [0, 1, 2, 3], [0, 1, 2, 3]]
theorem chkF22 : chkF nf22 = true := by decide +kernel
noncomputable def nf23 : List (List Nat) := [[1, 0, 2, 3], [1, 0, 2, 3], [1, 0, 2, 3], [1, 0, 2, 3]]
theorem chkF23 : chkF nf23 = true := by decide +kernel
noncomputable def nf24 : List (List Nat) := [[0, 2, 3, 1], [0, 2, 3, 1], [0, 2, 3, 1], [0, 2, 3, 1]]
theorem chkF24 : chkF nf24 = true := by decide +kernel
noncomputable def nf25 : List (List Nat) := [[0, 2, 1, 3], [0, 2, 1, 3], [0, 2, 1, 3], [0, 2, 1, 3]]
theorem chkF25 : chkF nf25 = true := by decide +kernel
noncomputable def nf26 : List (List Nat) := [[0, 1, 3, 2], [0, 1, 3, 2], [0, 1, 3, 2], [0, 1, 3, 2]]
theorem chkF26 : chkF nf26 = true := by decide +kernel
noncomputable def nf27 : List (List Nat) := [[2, 0, 1, 3], [2, 0, 1, 3], [2, 0, 1, 3], [2, 0, 1, 3]]
theorem chkF27 : chkF nf27 = true := by decide +kernel
noncomputable def nf28 : List (List Nat) := [[1, 3, 0, 2], [1, 3, 0, 2], [1, 3, 0, 2], [1, 3, 0, 2]]
theorem chkF28 : chkF nf28 = true := by decide +kernel
noncomputable def nf29 : List (List Nat) := [[1, 2, 0, 3], [1, 2, 0, 3], [1, 2, 0, 3], [1, 2, 0, 3]]
theorem chkF29 : chkF nf29 = true := by decide +kernel
noncomputable def nf30 : List (List Nat) := [[0, 3, 1, 2], [0, 3, 1, 2], [0, 3, 1, 2], [0, 3, 1, 2]]
theorem chkF30 : chkF nf30 = true := by decide +kernel
noncomputable def nf31 : List (List Nat) := [[2, 0, 3, 1], [2, 0, 3, 1], [2, 0, 3, 1], [2, 0, 3, 1]]
theorem chkF31 : chkF nf31 = true := by decide +kernel
noncomputable def nf32 : List (List Nat) := [[2, 1, 0, 3], [2, 1, 0, 3], [2, 1, 0, 3], [2, 1, 0, 3]]
theorem chkF32 : chkF nf32 = true := by decide +kernel
noncomputable def nf33 : List (List Nat) := [[1, 0, 3, 2], [1, 0, 3, 2], [1, 0, 3, 2], [1, 0, 3, 2]]
theorem chkF33 : chkF nf33 = true := by decide +kernel
noncomputable def nf34 : List (List Nat) := [[0, 3, 2, 1], [0, 3, 2, 1], [0, 3, 2, 1], [0, 3, 2, 1]]
theorem chkF34 : chkF nf34 = true := by decide +kernel
theorem nears_ok : ∀ f ∈ nears 4, chkF f = true := List.forall_mem_cons.mpr ⟨chkF0, List.forall_mem_cons.mpr ⟨chkF1, List.forall_mem_cons.mpr ⟨chkF2, List.forall_mem_cons.mpr ⟨chkF3, List.forall_mem_cons.mpr ⟨chkF4, List.forall_mem_cons.mpr ⟨chkF5, List.forall_mem_cons.mpr ⟨chkF6, List.forall_mem_cons.mpr ⟨chkF7, List.forall_mem_cons.mpr ⟨chkF8, List.forall_mem_cons.mpr ⟨chkF9, List.forall_mem_cons.mpr ⟨chkF10, List.forall_mem_cons.mpr ⟨chkF11, List.forall_mem_cons.mpr ⟨chkF12, List.forall_mem_cons.mpr ⟨chkF13, List.forall_mem_cons.mpr ⟨chkF14, List.forall_mem_cons.mpr ⟨chkF15, List.forall_mem_cons.mpr ⟨chkF16, List.forall_mem_cons.mpr ⟨chkF17, List.forall_mem_cons.mpr ⟨chkF18, List.forall_mem_cons.mpr ⟨chkF19, List.forall_mem_cons.mpr ⟨chkF20, List.forall_mem_cons.mpr ⟨chkF21, List.forall_mem_cons.mpr ⟨chkF22, List.forall_mem_cons.mpr ⟨chkF23, List.forall_mem_cons.mpr ⟨chkF24, List.forall_mem_cons.mpr ⟨chkF25, List.forall_mem_cons.mpr ⟨chkF26, List.forall_mem_cons.mpr ⟨chkF27, List.forall_mem_cons.mpr ⟨chkF28, List.forall_mem_cons.mpr ⟨chkF29, List.forall_mem_cons.mpr ⟨chkF30, List.forall_mem_cons.mpr ⟨chkF31, List.forall_mem_cons.mpr ⟨chkF32, List.forall_mem_cons.mpr ⟨chkF33, List.forall_mem_cons.mpr ⟨chkF34, fun _ h => nomatch h⟩⟩⟩⟩⟩⟩⟩⟩⟩⟩⟩⟩⟩⟩⟩⟩⟩⟩⟩⟩⟩⟩⟩⟩⟩⟩⟩⟩⟩⟩⟩⟩⟩⟩⟩
end Mine


namespace Mine
noncomputable def nats : PyData → Option (List Nat)
  | .list y => natOf y
  | _ => none
theorem nats_of {d : PyData} {m : List Nat} (h : nats d = some m) : d = eL m := by
  cases d with
  | list y => rw [natOf_of (show natOf y = some m from h)]; rfl
  | _ => cases (show (none : Option (List Nat)) = some m from h)
noncomputable def natLs : List PyData → Option (List (List Nat))
  | [] => some []
  | x :: l => match nats x, natLs l with
    | some y, some m => some (y :: m)
    | _, _ => none
theorem natLs_of : ∀ {l : List PyData} {m : List (List Nat)}, natLs l = some m → l = m.map eL
  | [], m, h => by cases h; rfl
  | x :: l, m, h => by
    unfold natLs at h
    split at h
    · rename_i y m' hy hm
      cases h
      rw [nats_of hy, natLs_of hm]; rfl
    · cases h
noncomputable def isLL (d : Option PyData) (m : List (List Nat)) : Bool := match d with
  | some (.list l) => natLs l == some m
  | _ => false
theorem isLL_of {d : Option PyData} {m : List (List Nat)} (h : isLL d m = true) : d = some (eLL m) := by
  unfold isLL at h
  split at h
  · rw [natLs_of (eq_of_beq h)]; rfl
  · cases h
theorem claims_is : g_law_claims [] = some claimsE := isLL_of (m := clms.map fun c => [c.1, c.2.1, c.2.2]) (by decide +kernel)
theorem trees_is : g_law_trees [] = some (eLL T0) := isLL_of (by decide +kernel)
/-! a turn's mode -/
noncomputable def mN (a b : Nat) : Int := if a = b then 2 ^ a else 2 ^ a + 2 ^ b
noncomputable def nsN (a b : Nat) : List Nat := (List.range 12).filter fun n => n == 11 - a || n == 11 - b
theorem pows_in : ∀ a < 12, (1 * 2 ^ a : Int) ∈ pows := by decide +kernel
theorem pow_inj : ∀ a < 12, ∀ b < 12, (1 * 2 ^ a : Int) = 1 * 2 ^ b → a = b := by decide +kernel
theorem fmod_low (v : Int) : ∃ a < 12, v.fmod 12 = ((a : Nat) : Int) := by
  have h1 := Int.fmod_nonneg_of_pos v (b := 12) (by decide)
  have h2 := Int.fmod_lt_of_pos v (b := 12) (by decide)
  exact ⟨(v.fmod 12).toNat, by omega, by omega⟩
variable {gr : List PyData → Option PyData}
theorem mode_is (v : Int) : ∃ a < 12, ∃ b < 12, ∀ ρ : Rho, rget ρ 4 = some (.int v) → dL_6 gr ρ = some (.int (mN a b)) := by
  obtain ⟨a, ha, ea⟩ := fmod_low v
  obtain ⟨b, hb, eb⟩ := fmod_low (v.fdiv 12)
  refine ⟨a, ha, b, hb, fun ρ h => ?_⟩
  have f1 : bin fmodD (fun ρ => rget ρ 4) (fun _ => some (.int 12)) ρ = some (.int a) := by
    rw [bin_of h rfl, fmodD, if_pos (by decide), ea]
  have f2 : bin fdivD (fun ρ => rget ρ 4) (fun _ => some (.int 12)) ρ = some (.int (v.fdiv 12)) := by
    rw [bin_of h rfl, fdivD, if_pos (by decide)]
  have f3 : bin fmodD (bin fdivD (fun ρ => rget ρ 4) (fun _ => some (.int 12))) (fun _ => some (.int 12)) ρ = some (.int b) := by
    rw [bin_of f2 rfl, fmodD, if_pos (by decide), eb]
  have s1 : ∀ (f : Rho → Option PyData) (c : Nat), c < 12 → f ρ = some (.int c) → bin shlD (fun _ => some (.int 1)) f ρ = some (.int (1 * 2 ^ c)) := by
    intro f c hc e
    rw [bin_of rfl e, shlD, if_pos ⟨by omega, by omega, by decide⟩, Int.toNat_natCast]
  have l : listD (consD (bin shlD (fun _ => some (.int 1)) (bin fmodD (fun ρ => rget ρ 4) (fun _ => some (.int 12)))) (consD (bin shlD (fun _ => some (.int 1)) (bin fmodD (bin fdivD (fun ρ => rget ρ 4) (fun _ => some (.int 12))) (fun _ => some (.int 12)))) (fun _ => some []))) ρ = some (.list [.int (1 * 2 ^ a), .int (1 * 2 ^ b)]) :=
    listD_of (consD_of (s1 _ a ha f1) (consD_of (s1 _ b hb f3) rfl)) (by simp [lim])
  unfold dL_6 sumSetD
  rw [l]
  dsimp only
  rw [if_pos ⟨pows_in a ha, pows_in b hb⟩]
  unfold mN
  by_cases e : a = b
  · subst e; simp
  · rw [if_neg e, if_neg (fun q => e (pow_inj a ha b hb q))]; simp
noncomputable def ρM (m : Int) : Rho := [none, none, none, none, none, some (.int m), none, none, none, none, none, none, none, none, none, none]
noncomputable def ρR (m : Int) (r : Str) : Rho := [none, none, none, none, none, some (.int m), some (.str r), none, none, none, none, none, none, none, none, none]
noncomputable def rowC (ρ : Rho) : Option Bool := cmp neC (fun ρ => rget ρ 6) (callD g_law_row (consD (fun ρ => rget ρ 5) (fun _ => some []))) ρ
noncomputable def isL (d : Option PyData) (ns : List Nat) : Bool := match d with
  | some (.list l) => natOf l == some ns
  | _ => false
theorem isL_of {d : Option PyData} {ns : List Nat} (h : isL d ns = true) : d = some (eL ns) := by
  unfold isL at h
  split at h
  · rename_i l; rw [natOf_of (eq_of_beq h)]; rfl
  · cases h
noncomputable def chkM (m : Int) (ns : List Nat) : Bool := match dL_8 gn (ρM m) with
  | some (.str r) => rowC (ρR m r) == some false && isL (dL_12 gn (ρR m r)) ns && isL (dL_16 gn (ρR m r)) ns
  | _ => false
noncomputable def chkMa (a : Nat) : Bool := (List.range' a (12 - a)).all fun b => chkM (mN a b) (nsN a b)
theorem chkMa0 : chkMa 0 = true := by decide +kernel
theorem chkMa1 : chkMa 1 = true := by decide +kernel
theorem chkMa2 : chkMa 2 = true := by decide +kernel
theorem chkMa3 : chkMa 3 = true := by decide +kernel
theorem chkMa4 : chkMa 4 = true := by decide +kernel
theorem chkMa5 : chkMa 5 = true := by decide +kernel
theorem chkMa6 : chkMa 6 = true := by decide +kernel
theorem chkMa7 : chkMa 7 = true := by decide +kernel
theorem chkMa8 : chkMa 8 = true := by decide +kernel
theorem chkMa9 : chkMa 9 = true := by decide +kernel
theorem chkMa10 : chkMa 10 = true := by decide +kernel
theorem chkMa11 : chkMa 11 = true := by decide +kernel
theorem chkMa_of (a : Nat) (ha : a < 12) : chkMa a = true := by
  match a, ha with
  | 0, _ => exact chkMa0
  | 1, _ => exact chkMa1
  | 2, _ => exact chkMa2
  | 3, _ => exact chkMa3
  | 4, _ => exact chkMa4
  | 5, _ => exact chkMa5
  | 6, _ => exact chkMa6
  | 7, _ => exact chkMa7
  | 8, _ => exact chkMa8
  | 9, _ => exact chkMa9
  | 10, _ => exact chkMa10
  | 11, _ => exact chkMa11
theorem chkM_of (a : Nat) (ha : a < 12) (b : Nat) (hb : b < 12) : chkM (mN a b) (nsN a b) = true := by
  have key : ∀ a b, a < 12 → b < 12 → a ≤ b → chkM (mN a b) (nsN a b) = true := fun a b ha hb h => by
    have := List.all_eq_true.mp (chkMa_of a ha) b (List.mem_range'_1.mpr ⟨h, by omega⟩)
    exact this
  by_cases h : a ≤ b
  · exact key a b ha hb h
  · have := key b a hb ha (by omega)
    have e1 : mN b a = mN a b := by
      unfold mN
      rw [if_neg (by omega), if_neg (by omega), Int.add_comm]
    have e2 : nsN b a = nsN a b := by
      unfold nsN
      congr 1; funext n; exact Bool.or_comm ..
    rwa [e1, e2] at this
theorem mode_facts (a : Nat) (ha : a < 12) (b : Nat) (hb : b < 12) : ∃ r, dL_8 gn (ρM (mN a b)) = some (.str r) ∧ rowC (ρR (mN a b) r) = some false ∧ dL_12 gn (ρR (mN a b) r) = some (eL (nsN a b)) ∧ dL_16 gn (ρR (mN a b) r) = some (eL (nsN a b)) := by
  have h := chkM_of a ha b hb
  unfold chkM at h
  split at h
  · rename_i r e
    rw [Bool.and_eq_true, Bool.and_eq_true] at h
    exact ⟨r, e, eq_of_beq h.1.1, isL_of h.1.2, isL_of h.2⟩
  · cases h
theorem nsN_low (a b : Nat) : ∀ x ∈ nsN a b, x < 12 := fun x hx => List.mem_range.mp (List.mem_filter.mp hx).1
theorem nsN_nd (a b : Nat) : (nsN a b).Nodup := List.Pairwise.filter _ List.nodup_range
/-! what `_law_grown` answers for the claims `l` -/
structure OkL (l : List Nat) : Prop where
  nd : l.Nodup
  low : ∀ x ∈ l, x < 12
theorem OkL.len {l : List Nat} (h : OkL l) : l.length ≤ 12 := by
  have := List.Nodup.length_le_of_subset h.nd (fun x hx => List.mem_range.mpr (h.low x hx) : l ⊆ List.range 12)
  simpa using this
theorem clm_lows {l : List Nat} (hl : ∀ x ∈ l, x < 12) : ∀ c ∈ l.map clm, c.1 < 4 ∧ c.2.1 < 4 := by
  intro c hc
  obtain ⟨x, hx, rfl⟩ := List.mem_map.mp hc
  exact ⟨(clm_low x (hl x hx)).1, (clm_low x (hl x hx)).2.1⟩
theorem grown_is {l : List Nat} (h : OkL l) : ∃ W, gl 3 [.list ((l.map clm).map eC), eL [0, 1, 2, 3], .str "/"] = some (eW W) ∧ waysOk W = true ∧ W.isEmpty = (fits l).isEmpty ∧
    (fits l ≠ [] → ∃ s ∈ shapes, wS W = some s.1 ∧ ∀ n < 12, s.2.contains n = shownZ (cd 4 l) (inner l) n) := by
  have L := law_of h.nd h.low
  have G : ∀ W, grownO 3 (l.map clm) [0, 1, 2, 3] slash = some W → gl 3 [.list ((l.map clm).map eC), eL [0, 1, 2, 3], .str "/"] = some (eW W) := fun W e => by
    rw [slash_is]
    exact gl_is (l.map clm) (clm_lows h.low) 3 [0, 1, 2, 3] slash W (by decide) (by decide) e
  by_cases hc : cd 4 l = cT 4
  · have z : ZL l = true := by unfold ZL ZZ; rw [hc]; rfl
    have f : (fits l).isEmpty = true := L.1 ▸ z
    exact ⟨[], G _ (grown_conn h.low hc), rfl, f.symm ▸ rfl, fun q => absurd (List.isEmpty_iff.mp f) q⟩
  · obtain ⟨f1, f2⟩ := nF_is h.low
    obtain ⟨g1, g2⟩ := nG_is h.low
    have F := nears_ok _ f1
    unfold chkF at F
    rw [f2, show (cd 4 l == cT 4) = false by simpa using hc, Bool.false_or] at F
    have E := List.all_eq_true.mp F _ g1
    have z : ZI (code (nF l)) (code (nG l)) = ZL l := by
      rw [f2, ZL_is l hc]
      unfold ZI
      by_cases i4 : triI (cd 4 l) < 4
      · rw [g2 i4]
      · rw [decide_eq_false i4]; rfl
    have sh : ∀ n, shownZ (code (nF l)) (code (nG l)) n = shownZ (cd 4 l) (inner l) n := by
      intro n
      rw [f2]
      unfold shownZ
      by_cases i4 : triI (cd 4 l) < 4
      · rw [g2 i4]
      · rw [decide_eq_false i4]; rfl
    unfold chkE at E
    split at E
    · cases E
    · rename_i W hW
      rw [z, L.1] at E
      rw [← grown_NN h.low hc] at hW
      refine ⟨W, G W hW, ?_⟩
      by_cases hf : (fits l).isEmpty = true
      · rw [if_pos hf] at E
        refine ⟨by rw [List.isEmpty_iff.mp E]; rfl, by rw [E, hf], fun q => absurd (List.isEmpty_iff.mp hf) q⟩
      · rw [if_neg hf] at E
        simp only [Bool.and_eq_true, Bool.not_eq_true'] at E
        obtain ⟨⟨E1, E2⟩, E3⟩ := E
        refine ⟨E2, by rw [E1]; simpa using hf, fun _ => ?_⟩
        split at E3
        · rename_i p hp
          obtain ⟨s, hs, E4⟩ := List.any_eq_true.mp E3
          rw [Bool.and_eq_true] at E4
          refine ⟨s, hs, by rw [hp, eq_of_beq E4.1], fun n hn => ?_⟩
          have := eq_of_beq (all_range E4.2 n hn)
          rw [this, sh]
        · cases E3
end Mine


namespace Mine
theorem callD_congr {g : List PyData → Option PyData} {f f' : Rho → Option (List PyData)} {ρ ρ' : Rho} (h : f ρ = f' ρ') : callD g f ρ = callD g f' ρ' := by unfold callD; rw [h]
theorem compD_congr {fi fi' : Rho → Option (List PyData)} {cap cap' : List (Option Nat)} {t : Tgt} {ft : Rho → Option Bool} {fe : Rho → Option PyData} {ρ ρ' : Rho} (h : fi ρ = fi' ρ') (h2 : mkRho cap ρ = mkRho cap' ρ') : compD fi cap t ft fe ρ = compD fi' cap' t ft fe ρ' := by
  unfold compD compL; rw [h, h2]
theorem bin_congr {F : PyData → PyData → Option PyData} {f g f' g' : Rho → Option PyData} {ρ ρ' : Rho} (h : f ρ = f' ρ') (h2 : g ρ = g' ρ') : bin F f g ρ = bin F f' g' ρ' := by unfold bin; rw [h, h2]
theorem cmp_congr {F : PyData → PyData → Option Bool} {f g f' g' : Rho → Option PyData} {ρ ρ' : Rho} (h : f ρ = f' ρ') (h2 : g ρ = g' ρ') : cmp F f g ρ = cmp F f' g' ρ' := by unfold cmp; rw [h, h2]
theorem c_notin {fi : Rho → Option (List PyData)} {cap : List (Option Nat)} {ρ : Rho} {l m : List Nat} (h : fi ρ = some (l.map eN)) (hl : l.length ≤ lim) (hm : mkRho cap ρ = [none, some (eL m)]) :
    compD fi cap (.one 0) (cmp notInC (fun ρ => rget ρ 0) (fun ρ => rget ρ 1)) (fun ρ => rget ρ 0) ρ = some (eL (l.filter fun n => !m.contains n)) := by
  refine compD_of h (by rw [List.length_map]; exact hl) ?_
  rw [hm]
  have := compGo_filter (e := eN) (ρ₀ := [none, some (eL m)]) (t := .one 0) (ft := cmp notInC (fun ρ => rget ρ 0) (fun ρ => rget ρ 1)) (fe := fun ρ => rget ρ 0) (fun n => !m.contains n) id eN l
    (fun x _ => ⟨[some (eN x), some (eL m)], rfl, by rw [cmp_of (a := eN x) (b := eL m) rfl rfl, notInC_eN], fun _ => rfl⟩)
  rw [List.map_id] at this
  exact this
theorem filter_nil_all (m t : List Nat) : decide (m.filter (fun n => !t.contains n) = []) = m.all t.contains := by
  rw [Bool.eq_iff_iff, decide_eq_true_eq, List.filter_eq_nil_iff, List.all_eq_true]
  refine ⟨fun h x hx => ?_, fun h x hx => ?_⟩
  · have := h x hx; simpa using this
  · have := h x hx; simpa using this
theorem c_sub {fi : Rho → Option (List PyData)} {cap : List (Option Nat)} {ρ : Rho} {ts : List (List Nat)} {m : List Nat} (h : fi ρ = some (ts.map eL)) (hl : ts.length ≤ lim) (hm : mkRho cap ρ = [none, some (eL m)]) (hml : m.length ≤ lim) :
    compD fi cap (.one 0) (cmp eqC (compD (seqL (fun ρ => rget ρ 1)) [none, some 0] (.one 0) (cmp notInC (fun ρ => rget ρ 0) (fun ρ => rget ρ 1)) (fun ρ => rget ρ 0)) (listD (fun _ => some []))) (fun ρ => rget ρ 0) ρ =
      some (eLL (ts.filter fun t => m.all t.contains)) := by
  refine compD_of h (by rw [List.length_map]; exact hl) ?_
  rw [hm]
  have := compGo_filter (e := eL) (ρ₀ := [none, some (eL m)]) (t := .one 0) (ft := cmp eqC (compD (seqL (fun ρ => rget ρ 1)) [none, some 0] (.one 0) (cmp notInC (fun ρ => rget ρ 0) (fun ρ => rget ρ 1)) (fun ρ => rget ρ 0)) (listD (fun _ => some []))) (fe := fun ρ => rget ρ 0) (fun t => m.all t.contains) id eL ts
    (fun x _ => ⟨[some (eL x), some (eL m)], rfl, by
      rw [cmp_of (a := eL (m.filter fun n => !x.contains n)) (b := eL []) (c_notin rfl hml rfl) rfl, eqC_eL, filter_nil_all], fun _ => rfl⟩)
  rw [List.map_id] at this
  exact this
theorem c_has {fi : Rho → Option (List PyData)} {cap : List (Option Nat)} {ρ : Rho} {ts : List (List Nat)} {n : Nat} (h : fi ρ = some (ts.map eL)) (hl : ts.length ≤ lim) (hm : mkRho cap ρ = [none, some (eN n)]) :
    compD fi cap (.one 0) (cmp inC (fun ρ => rget ρ 1) (fun ρ => rget ρ 0)) (fun ρ => rget ρ 0) ρ = some (eLL (ts.filter fun t => t.contains n)) := by
  refine compD_of h (by rw [List.length_map]; exact hl) ?_
  rw [hm]
  have := compGo_filter (e := eL) (ρ₀ := [none, some (eN n)]) (t := .one 0) (ft := cmp inC (fun ρ => rget ρ 1) (fun ρ => rget ρ 0)) (fe := fun ρ => rget ρ 0) (fun t => t.contains n) id eL ts
    (fun x _ => ⟨[some (eL x), some (eN n)], rfl, by rw [cmp_of (a := eN n) (b := eL x) rfl rfl, inC_eN], fun _ => rfl⟩)
  rw [List.map_id] at this
  exact this
theorem item_claims (n : Nat) (hn : n < 12) : itemD claimsE (eN n) = some (eC (clm n)) := by
  have hl : n < (clms.map eC).length := by rw [List.length_map]; exact hn
  have := itemD_eL hl (by rw [List.length_map]; decide)
  rw [List.getElem_map] at this
  have e : clms[n]'(by simpa using hl) = clm n := by
    have : n < clms.length := by simpa using hl
    simp [clm, List.getD_eq_getElem?_getD, this]
  rw [e] at this
  exact this
theorem c_clm {fi : Rho → Option (List PyData)} {cap : List (Option Nat)} {ρ : Rho} {l : List Nat} (h : fi ρ = some (l.map eN)) (hl : l.length ≤ lim) (hm : mkRho cap ρ = [none, some claimsE]) (hlow : ∀ x ∈ l, x < 12) :
    compD fi cap (.one 0) (fun _ => some true) (bin itemD (fun ρ => rget ρ 1) (fun ρ => rget ρ 0)) ρ = some (.list ((l.map clm).map eC)) := by
  refine compD_of h (by rw [List.length_map]; exact hl) ?_
  rw [hm]
  exact compGo_map (e := eN) clm eC l fun x hx => ⟨[some (eN x), some claimsE], rfl, rfl, by rw [bin_of (a := claimsE) (b := eN x) rfl rfl]; exact item_claims x (hlow x hx)⟩
/-- the call of `_law_grown` -/
theorem c_grown {fi : Rho → Option (List PyData)} {cap : List (Option Nat)} {ρ : Rho} {l : List Nat} {d : PyData} (h : fi ρ = some (l.map eN)) (hL : OkL l) (hm : mkRho cap ρ = [none, some claimsE])
    (hd : gl 3 [.list ((l.map clm).map eC), eL [0, 1, 2, 3], .str "/"] = some d) :
    callD (gl 3) (consD (compD fi cap (.one 0) (fun _ => some true) (bin itemD (fun ρ => rget ρ 1) (fun ρ => rget ρ 0))) (consD (listD (consD (fun _ => some (.int 0)) (consD (fun _ => some (.int 1)) (consD (fun _ => some (.int 2)) (consD (fun _ => some (.int 3)) (fun _ => some [])))))) (consD (fun _ => some (.str "/")) (fun _ => some [])))) ρ = some d := by
  have hlim : l.length ≤ lim := by have := hL.len; unfold lim; omega
  unfold callD
  rw [consD_of (c_clm h hlim hm hL.low) (consD_of (a := eL [0, 1, 2, 3]) rfl (consD_of rfl rfl))]
  exact hd
noncomputable def RL (S : PyData) (tk : List Nat) (x4 x5 x6 x7 x8 x9 x10 : Option PyData) : Rho := [some S, some claimsE, some (eLL (fits tk)), some (eL tk), x4, x5, x6, x7, x8, x9, x10, none, none, none, none, none]
structure Inv (tk : List Nat) : Prop extends OkL tk where
  fit : fits tk ≠ []
theorem fits_len (l : List Nat) : (fits l).length ≤ lim := Nat.le_trans (List.length_filter_le _ _) (by decide)
noncomputable def triedL (tk ns : List Nat) : List Nat := tk ++ ns.filter fun n => !tk.contains n
theorem triedL_ok {tk ns : List Nat} (h : OkL tk) (hn : ns.Nodup) (hl : ∀ x ∈ ns, x < 12) : OkL (triedL tk ns) := by
  refine ⟨List.nodup_append.mpr ⟨h.nd, List.Pairwise.filter _ hn, fun a ha b hb e => ?_⟩, fun x hx => ?_⟩
  · have := (List.mem_filter.mp hb).2
    rw [← e] at this
    simp [ha] at this
  · rcases List.mem_append.mp hx with hx | hx
    · exact h.low x hx
    · exact hl x (List.mem_filter.mp hx).1
theorem triedL_fits (tk ns : List Nat) : (fits tk).filter (fun t => ns.all t.contains) = fits (triedL tk ns) := by
  unfold fits triedL
  rw [List.filter_filter]
  congr 1
  funext t
  rw [Bool.eq_iff_iff, Bool.and_eq_true, List.all_eq_true, List.all_eq_true, List.all_eq_true]
  refine ⟨fun ⟨h1, h2⟩ x hx => ?_, fun h => ⟨fun x hx => ?_, fun x hx => h x (List.mem_append_left _ hx)⟩⟩
  · rcases List.mem_append.mp hx with hx | hx
    · exact h2 x hx
    · exact h1 x (List.mem_filter.mp hx).1
  · by_cases ht : x ∈ tk
    · exact h x (List.mem_append_left _ ht)
    · exact h x (List.mem_append_right _ (List.mem_filter.mpr ⟨hx, by simpa using ht⟩))
noncomputable def turnD : Rho → Option Out := seqS (dL_7 (gl 3)) (seqS (dL_9 (gl 3)) (seqS (dL_11 (gl 3)) (seqS (dL_13 (gl 3)) (seqS (dL_15 (gl 3)) (seqS (dL_17 (gl 3)) (seqS (dL_19 (gl 3)) (seqS (dL_21 (gl 3)) (seqS (dL_26 (gl 3)) (fun ρ => some (.next ρ))))))))))
theorem turn_is {S : PyData} {tk : List Nat} (I : Inv tk) (v : Int) (x5 x6 x7 x8 x9 x10 : Option PyData) :
    ∃ tk', Inv tk' ∧ ∃ y5 y6 y7 y8 y9 y10, turnD (RL S tk (some (.int v)) x5 x6 x7 x8 x9 x10) = some (.next (RL S tk' (some (.int v)) y5 y6 y7 y8 y9 y10)) := by
  obtain ⟨a, ha, b, hb, hm⟩ := mode_is (gr := gl 3) v
  obtain ⟨r, h8, hc, h12, h16⟩ := mode_facts a ha b hb
  generalize hns : nsN a b = ns at *
  have nlow : ∀ x ∈ ns, x < 12 := hns ▸ nsN_low a b
  have nnd : ns.Nodup := hns ▸ nsN_nd a b
  have nlim : ns.length ≤ lim := by have := (OkL.mk nnd nlow).len; unfold lim; omega
  generalize mN a b = m at *
  have T := triedL_ok I.toOkL nnd nlow
  obtain ⟨W, hW, wok, wE, -⟩ := grown_is T
  have e7 : dL_7 (gl 3) (RL S tk (some (.int v)) x5 x6 x7 x8 x9 x10) = some (.next (RL S tk (some (.int v)) (some (.int m)) x6 x7 x8 x9 x10)) := asg_of (hm _ rfl)
  have e9 : dL_9 (gl 3) (RL S tk (some (.int v)) (some (.int m)) x6 x7 x8 x9 x10) = some (.next (RL S tk (some (.int v)) (some (.int m)) (some (.str r)) x7 x8 x9 x10)) :=
    asg_of ((callD_congr rfl : dL_8 (gl 3) (RL S tk (some (.int v)) (some (.int m)) x6 x7 x8 x9 x10) = dL_8 gn (ρM m)).trans h8)
  have e11 : dL_11 (gl 3) (RL S tk (some (.int v)) (some (.int m)) (some (.str r)) x7 x8 x9 x10) = some (.next (RL S tk (some (.int v)) (some (.int m)) (some (.str r)) x7 x8 x9 x10)) := by
    have : cmp neC (fun ρ => rget ρ 6) (callD g_law_row (consD (fun ρ => rget ρ 5) (fun _ => some []))) (RL S tk (some (.int v)) (some (.int m)) (some (.str r)) x7 x8 x9 x10) = some false := (cmp_congr rfl (callD_congr rfl)).trans hc
    unfold dL_11
    rw [ifD_false this]
  have e13 : dL_13 (gl 3) (RL S tk (some (.int v)) (some (.int m)) (some (.str r)) x7 x8 x9 x10) = some (.next (RL S tk (some (.int v)) (some (.int m)) (some (.str r)) (some (eL ns)) x8 x9 x10)) := by
    refine asg_of (Eq.trans ?_ h12)
    exact bin_congr (compD_congr rfl rfl) (compD_congr rfl rfl)
  have e15 : dL_15 (gl 3) (RL S tk (some (.int v)) (some (.int m)) (some (.str r)) (some (eL ns)) x8 x9 x10) = some (.next (RL S tk (some (.int v)) (some (.int m)) (some (.str r)) (some (eL ns)) (some (eL (triedL tk ns))) x9 x10)) := by
    refine asg_of ?_
    unfold dL_14
    rw [bin_of (a := eL tk) (b := eL (ns.filter fun n => !tk.contains n)) rfl (c_notin rfl nlim rfl)]
    show (if (tk.map eN).length + ((ns.filter fun n => !tk.contains n).map eN).length ≤ lim then some (PyData.list (tk.map eN ++ (ns.filter fun n => !tk.contains n).map eN)) else none) = _
    have l1 := I.toOkL.len
    have l2 := List.length_filter_le (fun n => !tk.contains n) ns
    have l3 := (OkL.mk nnd nlow).len
    rw [if_pos (by rw [List.length_map, List.length_map]; unfold lim; omega), ← List.map_append]
    rfl
  have e17 : dL_17 (gl 3) (RL S tk (some (.int v)) (some (.int m)) (some (.str r)) (some (eL ns)) (some (eL (triedL tk ns))) x9 x10) = some (.next (RL S tk (some (.int v)) (some (.int m)) (some (.str r)) (some (eL ns)) (some (eL (triedL tk ns))) (some (eL ns)) x10)) := by
    refine asg_of (Eq.trans ?_ h16)
    exact compD_congr rfl rfl
  have e19 : dL_19 (gl 3) (RL S tk (some (.int v)) (some (.int m)) (some (.str r)) (some (eL ns)) (some (eL (triedL tk ns))) (some (eL ns)) x10) = some (.next (RL S tk (some (.int v)) (some (.int m)) (some (.str r)) (some (eL ns)) (some (eL (triedL tk ns))) (some (eL ns)) (some (eLL (fits (triedL tk ns)))))) := by
    refine asg_of ?_
    rw [← triedL_fits]
    exact c_sub rfl (fits_len tk) rfl nlim
  have n10 : cmp neC (fun ρ => rget ρ 10) (listD (fun _ => some [])) (RL S tk (some (.int v)) (some (.int m)) (some (.str r)) (some (eL ns)) (some (eL (triedL tk ns))) (some (eL ns)) (some (eLL (fits (triedL tk ns))))) = some (!(fits (triedL tk ns)).isEmpty) := by
    rw [cmp_of (a := eLL (fits (triedL tk ns))) (b := .list []) rfl rfl, neC_eLL_nil]
  have e21 : dL_21 (gl 3) (RL S tk (some (.int v)) (some (.int m)) (some (.str r)) (some (eL ns)) (some (eL (triedL tk ns))) (some (eL ns)) (some (eLL (fits (triedL tk ns))))) = some (.next (RL S tk (some (.int v)) (some (.int m)) (some (.str r)) (some (eL ns)) (some (eL (triedL tk ns))) (some (eL ns)) (some (eLL (fits (triedL tk ns)))))) := by
    unfold dL_21
    rw [ifD_false]
    have g : callD (gl 3) (consD (compD (seqL (fun ρ => rget ρ 8)) [none, some 1] (.one 0) (fun _ => some true) (bin itemD (fun ρ => rget ρ 1) (fun ρ => rget ρ 0))) (consD (listD (consD (fun _ => some (.int 0)) (consD (fun _ => some (.int 1)) (consD (fun _ => some (.int 2)) (consD (fun _ => some (.int 3)) (fun _ => some [])))))) (consD (fun _ => some (.str "/")) (fun _ => some [])))) (RL S tk (some (.int v)) (some (.int m)) (some (.str r)) (some (eL ns)) (some (eL (triedL tk ns))) (some (eL ns)) (some (eLL (fits (triedL tk ns))))) = some (eW W) :=
      c_grown (l := triedL tk ns) rfl T rfl hW
    rw [cmp_of (a := .bool (!W.isEmpty)) (b := .bool (!(fits (triedL tk ns)).isEmpty)) ?_ ?_, neC_bool, wE]
    · simp
    · unfold boolD
      rw [cmp_of (a := eW W) (b := .list []) g rfl, neC_eW wok]; rfl
    · unfold boolD
      rw [n10]; rfl
  unfold turnD
  rw [seqS_next e7, seqS_next e9, seqS_next e11, seqS_next e13, seqS_next e15, seqS_next e17, seqS_next e19, seqS_next e21]
  unfold dL_26
  by_cases hf : fits (triedL tk ns) = []
  · refine ⟨tk, I, some (.int m), some (.str r), some (eL ns), some (eL (triedL tk ns)), some (eL ns), some (eLL (fits (triedL tk ns))), ?_⟩
    rw [seqS_next (ifD_false (by rw [n10, hf]; rfl))]
  · refine ⟨triedL tk ns, ⟨T, hf⟩, some (.int m), some (.str r), some (eL ns), some (eL (triedL tk ns)), some (eL ns), some (eLL (fits (triedL tk ns))), ?_⟩
    have c : cmp neC (fun ρ => rget ρ 10) (listD (fun _ => some [])) (RL S tk (some (.int v)) (some (.int m)) (some (.str r)) (some (eL ns)) (some (eL (triedL tk ns))) (some (eL ns)) (some (eLL (fits (triedL tk ns))))) = some true := by
      rw [n10]
      cases e : fits (triedL tk ns) with
      | nil => exact absurd e hf
      | cons _ _ => rfl
    have e : seqS (dL_23 (gl 3)) (seqS (dL_25 (gl 3)) fun ρ => some (.next ρ)) (RL S tk (some (.int v)) (some (.int m)) (some (.str r)) (some (eL ns)) (some (eL (triedL tk ns))) (some (eL ns)) (some (eLL (fits (triedL tk ns))))) = some (.next (RL S (triedL tk ns) (some (.int v)) (some (.int m)) (some (.str r)) (some (eL ns)) (some (eL (triedL tk ns))) (some (eL ns)) (some (eLL (fits (triedL tk ns)))))) := rfl
    rw [seqS_next ((ifD_true c).trans e)]
theorem turns_are {S : PyData} : ∀ (vs : List Int) (tk : List Nat), Inv tk → ∀ (x4 x5 x6 x7 x8 x9 x10 : Option PyData),
    ∃ tk', Inv tk' ∧ ∃ y4 y5 y6 y7 y8 y9 y10, loopD (setN 4) turnD (fun ρ => some (.next ρ)) (vs.map .int) (RL S tk x4 x5 x6 x7 x8 x9 x10) = some (.next (RL S tk' y4 y5 y6 y7 y8 y9 y10)) := by
  intro vs
  induction vs with
  | nil => intro tk I x4 x5 x6 x7 x8 x9 x10; exact ⟨tk, I, _, _, _, _, _, _, _, rfl⟩
  | cons v vs ih =>
    intro tk I x4 x5 x6 x7 x8 x9 x10
    obtain ⟨t1, I1, y5, y6, y7, y8, y9, y10, e⟩ := turn_is (S := S) I v x5 x6 x7 x8 x9 x10
    obtain ⟨t2, I2, z4, z5, z6, z7, z8, z9, z10, e2⟩ := ih t1 I1 (some (.int v)) y5 y6 y7 y8 y9 y10
    refine ⟨t2, I2, z4, z5, z6, z7, z8, z9, z10, ?_⟩
    rw [List.map_cons, loopD_next (ρ₁ := RL S tk (some (.int v)) x5 x6 x7 x8 x9 x10) rfl e]
    exact e2
end Mine


namespace Mine
noncomputable def RE (S : PyData) (tk : List Nat) (x4 x5 x6 x7 x8 x9 x10 x11 x12 x13 x14 x15 : Option PyData) : Rho := [some S, some claimsE, some (eLL (fits tk)), some (eL tk), x4, x5, x6, x7, x8, x9, x10, x11, x12, x13, x14, x15]
theorem shapes_low : (shapes.all fun s => s.2.all fun x => decide (x < 12)) = true := by decide +kernel
theorem shapes_len : (shapes.all fun s => decide (s.2.length ≤ 12)) = true := by decide +kernel
theorem shape_facts {s : List Str × List Nat} (hs : s ∈ shapes) : condE (ρS s.1) = some false ∧ ∃ D, dL_32 gn (ρS s.1) = some D ∧ dL_34 gn (ρD D) = some (eL s.2) := by
  have h := shapes_ok s hs
  unfold chkS at h
  rw [Bool.and_eq_true] at h
  refine ⟨eq_of_beq h.1, ?_⟩
  have h := h.2
  split at h
  · rename_i D e
    refine ⟨D, e, ?_⟩
    split at h
    · rename_i l e2
      rw [e2, natOf_of (eq_of_beq h)]; rfl
    · cases h
  · cases h
theorem eqC_eLL_nil (l : List (List Nat)) : eqC (eLL l) (.list []) = some l.isEmpty := by
  have h1 := shaped_eLL l
  have h2 : SeqAt.shaped (.list []) = true := shaped_eL []
  simp only [eqC, h1, h2, Bool.and_self, if_true]
  cases l <;> simp [eLL, PyData.eqv, PyData.eqvAll]
theorem seqsort_congr {f f' : Rho → Option PyData} {ρ ρ' : Rho} (h : f ρ = f' ρ') : seqL (sortLD f) ρ = seqL (sortLD f') ρ' := by unfold seqL sortLD; rw [h]
noncomputable def lastD : Rho → Option Out := seqS (dL_39 (gl 3)) (seqS (dL_41 (gl 3)) (fun ρ => some (.next ρ)))
theorem fits_snoc (tk : List Nat) (n : Nat) : (fits tk).filter (fun t => t.contains n) = fits (tk ++ [n]) := by
  unfold fits
  rw [List.filter_filter]
  congr 1
  funext t
  rw [List.all_append, List.all_cons, List.all_nil, Bool.and_true, Bool.and_comm]
theorem last_loop {S : PyData} {tk : List Nat} (I : Inv tk) {x4 x5 x6 x7 x8 x9 x10 x11 x12 x13 : Option PyData} : ∀ (ns : List Nat), (∀ n ∈ ns, n < 12 ∧ n ∉ tk) → ∀ (x14 x15 : Option PyData),
    ∃ y14 y15, loopD (setN 14) lastD (fun ρ => some (.next ρ)) (ns.map eN) (RE S tk x4 x5 x6 x7 x8 x9 x10 x11 x12 x13 x14 x15) = some (.next (RE S tk x4 x5 x6 x7 x8 x9 x10 x11 x12 x13 y14 y15)) := by
  intro ns
  induction ns with
  | nil => intro _ x14 x15; exact ⟨x14, x15, rfl⟩
  | cons n ns ih =>
    intro hn x14 x15
    obtain ⟨h1, h2⟩ := hn n (.head _)
    have T : OkL (tk ++ [n]) := by
      refine ⟨List.nodup_append.mpr ⟨I.nd, by simp, fun a ha b hb e => ?_⟩, fun x hx => ?_⟩
      · rw [List.mem_singleton] at hb
        exact h2 (hb ▸ e ▸ ha)
      · rcases List.mem_append.mp hx with hx | hx
        · exact I.low x hx
        · rw [List.mem_singleton] at hx; rw [hx]; exact h1
    obtain ⟨W, hW, wok, wE, -⟩ := grown_is T
    have a : bin addD (fun ρ => rget ρ 3) (listD (consD (fun ρ => rget ρ 14) (fun _ => some []))) (RE S tk x4 x5 x6 x7 x8 x9 x10 x11 x12 x13 (some (eN n)) x15) = some (eL (tk ++ [n])) := by
      rw [bin_of (a := eL tk) (b := .list [eN n]) rfl (listD_of (consD_of rfl rfl) (by simp [lim]))]
      show (if (tk.map eN).length + [eN n].length ≤ lim then some (PyData.list (tk.map eN ++ [eN n])) else none) = _
      have l1 := I.toOkL.len
      rw [if_pos (by rw [List.length_map, List.length_singleton]; unfold lim; omega), eL, List.map_append]
      rfl
    have e39 : dL_39 (gl 3) (RE S tk x4 x5 x6 x7 x8 x9 x10 x11 x12 x13 (some (eN n)) x15) = some (.next (RE S tk x4 x5 x6 x7 x8 x9 x10 x11 x12 x13 (some (eN n)) (some (eW W)))) := by
      refine asg_of ?_
      exact c_grown (l := tk ++ [n]) (by unfold seqL; rw [a]; rfl) T rfl hW
    have e41 : dL_41 (gl 3) (RE S tk x4 x5 x6 x7 x8 x9 x10 x11 x12 x13 (some (eN n)) (some (eW W))) = some (.next (RE S tk x4 x5 x6 x7 x8 x9 x10 x11 x12 x13 (some (eN n)) (some (eW W)))) := by
      unfold dL_41
      rw [ifD_false]
      rw [cmp_of (a := .bool (!W.isEmpty)) (b := .bool (!(fits (tk ++ [n])).isEmpty)) ?_ ?_, neC_bool, wE]
      · simp
      · unfold boolD
        rw [cmp_of (a := eW W) (b := .list []) rfl rfl, neC_eW wok]; rfl
      · unfold boolD
        rw [cmp_of (a := eLL (fits (tk ++ [n]))) (b := .list []) (by rw [← fits_snoc]; exact c_has rfl (fits_len tk) rfl) rfl, neC_eLL_nil]; rfl
    obtain ⟨y14, y15, e⟩ := ih (fun m hm => hn m (.tail _ hm)) (some (eN n)) (some (eW W))
    refine ⟨y14, y15, ?_⟩
    rw [List.map_cons, loopD_next (ρ₁ := RE S tk x4 x5 x6 x7 x8 x9 x10 x11 x12 x13 (some (eN n)) x15) (ρ₂ := RE S tk x4 x5 x6 x7 x8 x9 x10 x11 x12 x13 (some (eN n)) (some (eW W))) rfl (by unfold lastD; rw [seqS_next e39, seqS_next e41])]
    exact e
noncomputable def endD : Rho → Option Out := seqS (dL_29 (gl 3)) (seqS (dL_31 (gl 3)) (seqS (dL_33 (gl 3)) (seqS (dL_35 (gl 3)) (seqS (dL_37 (gl 3)) (seqS (dL_42 (gl 3)) (seqS (dL_43 (gl 3)) (fun ρ => some (.next ρ))))))))
theorem end_is {S : PyData} {tk : List Nat} (I : Inv tk) (x4 x5 x6 x7 x8 x9 x10 : Option PyData) : endD (RL S tk x4 x5 x6 x7 x8 x9 x10) = some (.ret (.bool true)) := by
  obtain ⟨W, hW, wok, wE, H⟩ := grown_is I.toOkL
  obtain ⟨s, hs, hw, hsh⟩ := H I.fit
  obtain ⟨-, L⟩ := law_of I.nd I.low
  obtain ⟨L1, t, ht, L2⟩ := L I.fit
  obtain ⟨hc, D, hD, hS⟩ := shape_facts hs
  have slow : ∀ x ∈ s.2, x < 12 := fun x hx => of_decide_eq_true (List.all_eq_true.mp (List.all_eq_true.mp shapes_low s hs) x hx)
  have slen : s.2.length ≤ lim := by have := of_decide_eq_true (List.all_eq_true.mp shapes_len s hs); unfold lim; omega
  have tlim : tk.length ≤ lim := by have := I.toOkL.len; unfold lim; omega
  generalize hws : s.1 = p at *
  generalize hsn : s.2 = sn at *
  have tin : ∀ n ∈ tk, n ∈ sn := fun n hn => List.contains_iff_mem.mp ((hsh n (I.low n hn)).trans (L1 n hn))
  have tsub : sn.all t.contains = true := List.all_eq_true.mpr fun n hn => List.contains_iff_mem.mpr (L2 n (slow n hn) ((hsh n (slow n hn)).symm.trans (List.contains_iff_mem.mpr hn)))
  have e29 : dL_29 (gl 3) (RL S tk x4 x5 x6 x7 x8 x9 x10) = some (.next (RE S tk x4 x5 x6 x7 x8 x9 x10 (some (.list (p.map .str))) none none none none)) := by
    have g : callD (gl 3) (consD (compD (seqL (fun ρ => rget ρ 3)) [none, some 1] (.one 0) (fun _ => some true) (bin itemD (fun ρ => rget ρ 1) (fun ρ => rget ρ 0))) (consD (listD (consD (fun _ => some (.int 0)) (consD (fun _ => some (.int 1)) (consD (fun _ => some (.int 2)) (consD (fun _ => some (.int 3)) (fun _ => some [])))))) (consD (fun _ => some (.str "/")) (fun _ => some [])))) (RL S tk x4 x5 x6 x7 x8 x9 x10) = some (eW W) :=
      c_grown (l := tk) rfl I.toOkL rfl hW
    refine asg_of (Eq.trans ?_ (wS_of hw))
    unfold dL_28 wD
    exact compD_congr (seqsort_congr g) rfl
  have e31 : dL_31 (gl 3) (RE S tk x4 x5 x6 x7 x8 x9 x10 (some (.list (p.map .str))) none none none none) = some (.next (RE S tk x4 x5 x6 x7 x8 x9 x10 (some (.list (p.map .str))) none none none none)) := by
    have : condE (RE S tk x4 x5 x6 x7 x8 x9 x10 (some (.list (p.map .str))) none none none none) = some false := by
      refine Eq.trans ?_ hc
      rfl
    unfold dL_31
    unfold condE at this
    rw [ifD_false this]
  have e33 : dL_33 (gl 3) (RE S tk x4 x5 x6 x7 x8 x9 x10 (some (.list (p.map .str))) none none none none) = some (.next (RE S tk x4 x5 x6 x7 x8 x9 x10 (some (.list (p.map .str))) (some D) none none none)) := by
    refine asg_of (Eq.trans ?_ hD)
    exact compD_congr rfl rfl
  have e35 : dL_35 (gl 3) (RE S tk x4 x5 x6 x7 x8 x9 x10 (some (.list (p.map .str))) (some D) none none none) = some (.next (RE S tk x4 x5 x6 x7 x8 x9 x10 (some (.list (p.map .str))) (some D) (some (eL sn)) none none)) := by
    refine asg_of (Eq.trans ?_ hS)
    exact compD_congr rfl rfl
  have e37 : dL_37 (gl 3) (RE S tk x4 x5 x6 x7 x8 x9 x10 (some (.list (p.map .str))) (some D) (some (eL sn)) none none) = some (.next (RE S tk x4 x5 x6 x7 x8 x9 x10 (some (.list (p.map .str))) (some D) (some (eL sn)) none none)) := by
    unfold dL_37
    rw [ifD_false]
    have c1 : cmp neC (compD (seqL (fun ρ => rget ρ 3)) [none, some 13] (.one 0) (cmp notInC (fun ρ => rget ρ 0) (fun ρ => rget ρ 1)) (fun ρ => rget ρ 0)) (listD (fun _ => some [])) (RE S tk x4 x5 x6 x7 x8 x9 x10 (some (.list (p.map .str))) (some D) (some (eL sn)) none none) = some false := by
      rw [cmp_of (a := eL (tk.filter fun n => !sn.contains n)) (b := eL []) (c_notin rfl tlim rfl) rfl, neC_eL]
      rw [filter_nil_all, List.all_eq_true.mpr fun n hn => List.contains_iff_mem.mpr (tin n hn)]; rfl
    have c2 : cmp eqC (compD (seqL (fun ρ => rget ρ 2)) [none, some 13] (.one 0) (cmp eqC (compD (seqL (fun ρ => rget ρ 1)) [none, some 0] (.one 0) (cmp notInC (fun ρ => rget ρ 0) (fun ρ => rget ρ 1)) (fun ρ => rget ρ 0)) (listD (fun _ => some []))) (fun ρ => rget ρ 0)) (listD (fun _ => some [])) (RE S tk x4 x5 x6 x7 x8 x9 x10 (some (.list (p.map .str))) (some D) (some (eL sn)) none none) = some false := by
      rw [cmp_of (a := eLL ((fits tk).filter fun t => sn.all t.contains)) (b := .list []) (c_sub rfl (fits_len tk) rfl slen) rfl, eqC_eLL_nil]
      have : t ∈ (fits tk).filter fun t => sn.all t.contains := List.mem_filter.mpr ⟨ht, tsub⟩
      cases e : (fits tk).filter fun t => sn.all t.contains with
      | nil => rw [e] at this; cases this
      | cons _ _ => rfl
    unfold orC
    rw [c1]
    dsimp only
    rw [c2]
  have c42 : compD (range1 (fun _ => some (.int 12))) [none, some 13] (.one 0) (cmp notInC (fun ρ => rget ρ 0) (fun ρ => rget ρ 1)) (fun ρ => rget ρ 0) (RE S tk x4 x5 x6 x7 x8 x9 x10 (some (.list (p.map .str))) (some D) (some (eL sn)) none none) = some (eL ((List.range 12).filter fun n => !sn.contains n)) :=
    c_notin rfl (by decide) rfl
  obtain ⟨y14, y15, e42⟩ := last_loop (S := S) I (x4 := x4) (x5 := x5) (x6 := x6) (x7 := x7) (x8 := x8) (x9 := x9) (x10 := x10) (x11 := some (.list (p.map .str))) (x12 := some D) (x13 := some (eL sn)) ((List.range 12).filter fun n => !sn.contains n)
    (fun n hn => by
      obtain ⟨h1, h2⟩ := List.mem_filter.mp hn
      refine ⟨List.mem_range.mp h1, fun q => ?_⟩
      have := List.contains_iff_mem.mpr (tin n q)
      rw [this] at h2; cases h2) none none
  have e42' : dL_42 (gl 3) (RE S tk x4 x5 x6 x7 x8 x9 x10 (some (.list (p.map .str))) (some D) (some (eL sn)) none none) = some (.next (RE S tk x4 x5 x6 x7 x8 x9 x10 (some (.list (p.map .str))) (some D) (some (eL sn)) y14 y15)) := by
    refine (forD_of (ds := ((List.range 12).filter fun n => !sn.contains n).map eN) ?_).trans e42
    unfold seqL; rw [c42]; rfl
  unfold endD
  rw [seqS_next e29, seqS_next e31, seqS_next e33, seqS_next e35, seqS_next e37, seqS_next e42']
  rfl
theorem law_true (script : List Int) (hl : script.length ≤ lim) : gs_law (gl 3) [.list (script.map .int)] = some (.bool true) := by
  show runBody (d_law (gl 3)) [some (.list (script.map .int)), none, none, none, none, none, none, none, none, none, none, none, none, none, none, none] = _
  generalize hS : PyData.list (script.map PyData.int) = S
  have I0 : Inv [] := ⟨⟨List.nodup_nil, fun _ h => nomatch h⟩, by decide +kernel⟩
  have f0 : fits [] = T0 := by decide +kernel
  have e1 : dL_1 (gl 3) [some S, none, none, none, none, none, none, none, none, none, none, none, none, none, none, none] = some (.next [some S, some claimsE, none, none, none, none, none, none, none, none, none, none, none, none, none, none]) := asg_of claims_is
  have e3 : dL_3 (gl 3) [some S, some claimsE, none, none, none, none, none, none, none, none, none, none, none, none, none, none] = some (.next [some S, some claimsE, some (eLL T0), none, none, none, none, none, none, none, none, none, none, none, none, none]) := asg_of trees_is
  have e5 : dL_5 (gl 3) [some S, some claimsE, some (eLL T0), none, none, none, none, none, none, none, none, none, none, none, none, none] = some (.next (RL S [] none none none none none none none)) := by
    unfold RL
    rw [f0]; rfl
  have it : seqL (bin addD (bin takeD (fun ρ => rget ρ 0) (fun _ => some (.int 5))) (listD (consD (fun _ => some (.int 96)) (consD (fun _ => some (.int 26)) (fun _ => some []))))) (RL S [] none none none none none none none) = some ((script.take 5 ++ [96, 26]).map .int) := by
    have t : bin takeD (fun ρ => rget ρ 0) (fun _ => some (.int 5)) (RL S [] none none none none none none none) = some (.list ((script.take 5).map .int)) := by
      rw [bin_of (a := S) (b := .int 5) rfl rfl, ← hS]
      show (if 0 ≤ (5 : Int) ∧ (script.map PyData.int).length ≤ lim then some (PyData.list ((script.map PyData.int).take (5 : Int).toNat)) else none) = _
      rw [if_pos ⟨by decide, by rw [List.length_map]; exact hl⟩, List.map_take]; rfl
    unfold seqL
    rw [bin_of (a := .list ((script.take 5).map .int)) (b := .list [.int 96, .int 26]) t (listD_of (consD_of rfl (consD_of rfl rfl)) (by simp [lim]))]
    show (match (if ((script.take 5).map PyData.int).length + [PyData.int 96, PyData.int 26].length ≤ lim then some (PyData.list ((script.take 5).map PyData.int ++ [.int 96, .int 26])) else none) with | some (.list ds) => some ds | some (.tuple ds) => some ds | _ => none) = _
    rw [if_pos (by rw [List.length_map]; have := List.length_take_le 5 script; simp [lim]; omega), List.map_append]
    rfl
  obtain ⟨tk, I, y4, y5, y6, y7, y8, y9, y10, e27⟩ := turns_are (S := S) (script.take 5 ++ [96, 26]) [] I0 none none none none none none none
  have e27' : dL_27 (gl 3) (RL S [] none none none none none none none) = some (.next (RL S tk y4 y5 y6 y7 y8 y9 y10)) := (forD_of it).trans e27
  have E := end_is (S := S) I y4 y5 y6 y7 y8 y9 y10
  unfold endD at E
  unfold d_law runBody
  rw [seqS_next e1, seqS_next e3, seqS_next e5, seqS_next e27', E]
end Mine


namespace Mine
noncomputable def seqOf (d : Data) : Option (Array Value) := match d with
  | .seq vs _ => some vs
  | _ => none
noncomputable def entOf (d : Data) : Option (Array DictEntry) := match d with
  | .dict es _ => some es
  | _ => none
noncomputable def funOf (d : Data) : Option FuncData := match d with
  | .func fd => some fd
  | _ => none
theorem seqOf_is {d : Data} {vs : Array Value} (e : seqOf d = some vs) : ∃ n, d = .seq vs n := by
  cases d with
  | seq us n => cases (show some us = some vs from e); exact ⟨_, rfl⟩
  | _ => cases (show (none : Option (Array Value)) = some vs from e)
theorem entOf_is {d : Data} {es : Array DictEntry} (e : entOf d = some es) : ∃ n, d = .dict es n := by
  cases d with
  | dict us n => cases (show some us = some es from e); exact ⟨_, rfl⟩
  | _ => cases (show (none : Option (Array DictEntry)) = some es from e)
theorem funOf_is {d : Data} {fd : FuncData} (e : funOf d = some fd) : d = .func fd := by
  cases d with
  | func f => cases (show some f = some fd from e); rfl
  | _ => cases (show (none : Option FuncData) = some fd from e)
noncomputable def isTup (v : Value) : Bool := match v with
  | .type t => t == "tuple"
  | _ => false
theorem isTup_is {v : Value} (e : isTup v = true) : v = .type "tuple" := by
  cases v with
  | type t => rw [beq_iff_eq.mp (show (t == "tuple") = true from e)]
  | _ => cases (show false = true from e)
/-- the items of a plain tuple -/
noncomputable def tupAt (h : Heap) (a : Addr) : Option (Array Value) := match h.get? a with
  | some o => if isTup o.cls && (o.dict.isNone && o.slots.isEmpty) then seqOf o.data else none
  | none => none
theorem tupAt_is {h : Heap} {a : Addr} {vs : Array Value} (e : tupAt h a = some vs) : ∃ o n, h.get? a = some o ∧ PlainO "tuple" o vs n ∧ o.data = .seq vs n := by
  unfold tupAt at e
  split at e
  · rename_i o ho
    split at e
    · rename_i c
      simp only [Bool.and_eq_true] at c
      obtain ⟨n, hn⟩ := seqOf_is e
      refine ⟨o, n, ho, ?_, hn⟩
      obtain ⟨c1, c2, c3⟩ := c
      have d1 := isTup_is c1
      have d2 : o.dict = none := Option.isNone_iff_eq_none.mp c2
      have d3 : o.slots = #[] := Array.isEmpty_iff.mp c3
      obtain ⟨cl, di, da, sl⟩ := o
      subst d1; subst d2; subst d3; subst hn
      rfl
    · cases e
  · cases e
noncomputable def asInt (v : Value) : Option Int := match v with
  | .int i _ => some i
  | _ => none
noncomputable def asStr (v : Value) : Option Str := match v with
  | .str x _ => some x
  | _ => none
noncomputable def asRef (v : Value) : Option Addr := match v with
  | .ref a => some a
  | _ => none
theorem asInt_is {v : Value} {i : Int} (e : asInt v = some i) : ∃ t, v = .int i t := by
  cases v with
  | int j t => cases (show some j = some i from e); exact ⟨_, rfl⟩
  | _ => cases (show (none : Option Int) = some i from e)
theorem asStr_is {v : Value} {x : Str} (e : asStr v = some x) : ∃ t, v = .str x t := by
  cases v with
  | str j t => cases (show some j = some x from e); exact ⟨_, rfl⟩
  | _ => cases (show (none : Option Str) = some x from e)
theorem asRef_is {v : Value} {a : Addr} (e : asRef v = some a) : v = .ref a := by
  cases v with
  | ref j => cases (show some j = some a from e); rfl
  | _ => cases (show (none : Option Addr) = some a from e)
noncomputable def tupB (h : Heap) (rec : Value → PyData → Bool) (v : Value) (ds : List PyData) : Bool := match (asRef v).bind (tupAt h) with
  | some vs => vs.toList.length == ds.length && (vs.toList.zip ds).all fun p => rec p.1 p.2
  | none => false
noncomputable def rvB (h : Heap) : Nat → Value → PyData → Bool
  | 0, _, _ => false
  | n + 1, v, d => (match d with
    | .int j => asInt v == some j
    | .str y => asStr v == some y
    | .tuple ds => tupB h (rvB h n) v ds
    | _ => false)
theorem rvs_zip {h : Heap} {r : Value → PyData → Bool} (ih : ∀ v d, r v d = true → Rv (fun _ => False) h v d) : ∀ (vs : List Value) (ds : List PyData), vs.length = ds.length → ((vs.zip ds).all fun p => r p.1 p.2) = true → Rvs (fun _ => False) h vs ds
  | [], [], _, _ => .nil
  | [], _ :: _, e, _ => by simp at e
  | _ :: _, [], e, _ => by simp at e
  | v :: vs, d :: ds, e, x => by
    rw [List.zip_cons_cons, List.all_cons, Bool.and_eq_true] at x
    exact .cons (ih v d x.1) (rvs_zip ih vs ds (by simpa using e) x.2)
theorem tupB_rv {h : Heap} {r : Value → PyData → Bool} (ih : ∀ v d, r v d = true → Rv (fun _ => False) h v d) {v : Value} {ds : List PyData} (x : tupB h r v ds = true) : Rv (fun _ => False) h v (.tuple ds) := by
  unfold tupB at x
  split at x
  · rename_i vs e
    obtain ⟨a, ea, et⟩ := Option.bind_eq_some_iff.mp e
    obtain ⟨o, n, h1, h2, h3⟩ := tupAt_is et
    rw [asRef_is ea]
    rw [Bool.and_eq_true, beq_iff_eq] at x
    exact .tuple (fun q => q) h1 h2 h3 (rvs_zip ih _ _ x.1 x.2)
  · cases x
theorem rvB_rv {h : Heap} : ∀ (n : Nat) (v : Value) (d : PyData), rvB h n v d = true → Rv (fun _ => False) h v d := by
  intro n
  induction n with
  | zero => intro v d x; cases x
  | succ n ih =>
    intro v d x
    cases d with
    | int j => obtain ⟨t, rfl⟩ := asInt_is (beq_iff_eq.mp (show (asInt v == some j) = true from x)); exact .int _ _
    | str y => obtain ⟨t, rfl⟩ := asStr_is (beq_iff_eq.mp (show (asStr v == some y) = true from x)); exact .str _ _
    | tuple ds => exact tupB_rv ih x
    | _ => exact Bool.noConfusion (show false = true from x)
noncomputable def tblE : PyData := .tuple [.tuple [.tuple [.int 40960, .str "l"], .tuple [.int 49152, .str "s"], .tuple [.int 32768, .str "-"], .tuple [.int 24576, .str "b"], .tuple [.int 16384, .str "d"], .tuple [.int 8192, .str "c"], .tuple [.int 4096, .str "p"]], .tuple [.tuple [.int 256, .str "r"]], .tuple [.tuple [.int 128, .str "w"]], .tuple [.tuple [.int 2112, .str "s"], .tuple [.int 2048, .str "S"], .tuple [.int 64, .str "x"]], .tuple [.tuple [.int 32, .str "r"]], .tuple [.tuple [.int 16, .str "w"]], .tuple [.tuple [.int 1032, .str "s"], .tuple [.int 1024, .str "S"], .tuple [.int 8, .str "x"]], .tuple [.tuple [.int 4, .str "r"]], .tuple [.tuple [.int 2, .str "w"]], .tuple [.tuple [.int 513, .str "t"], .tuple [.int 512, .str "T"], .tuple [.int 1, .str "x"]]]
noncomputable def atB (m : Option Value) (a : Addr) : Bool := m.bind asRef == some a
theorem atB_is {m : Option Value} {a : Addr} (x : atB m a = true) : m = some (.ref a) := by
  obtain ⟨v, hv, e⟩ := Option.bind_eq_some_iff.mp (beq_iff_eq.mp x)
  rw [hv, asRef_is e]
noncomputable def asBool (v : Value) : Option Bool := match v with
  | .bool b => some b
  | _ => none
theorem asBool_is {v : Value} {b : Bool} (e : asBool v = some b) : v = .bool b := by
  cases v with
  | bool j => cases (show some j = some b from e); rfl
  | _ => cases (show (none : Option Bool) = some b from e)
noncomputable def oneB (l : List DictEntry) : Bool := match l with
  | [e] => asStr e.key == some "unhashable_fallback" && asBool e.val == some false
  | _ => false
theorem oneB_is {l : List DictEntry} (x : oneB l = true) : ∃ i t, l = [⟨i, .str "unhashable_fallback" t, .bool false⟩] := by
  unfold oneB at x
  split at x
  · rename_i e
    rw [Bool.and_eq_true, beq_iff_eq, beq_iff_eq] at x
    obtain ⟨i, k, v⟩ := e
    obtain ⟨t, hk⟩ := asStr_is x.1
    have hv := asBool_is x.2
    simp only at hk hv
    subst hk; subst hv
    exact ⟨_, _, rfl⟩
  · cases x
noncomputable def kwB (h : Heap) : Bool := match (h.get? 22).bind fun o => entOf o.data with
  | some es => oneB es.toList
  | none => false
theorem kwB_is {h : Heap} (x : kwB h = true) : ∃ c d i t n sl, h.get? 22 = some ⟨c, d, .dict #[⟨i, .str "unhashable_fallback" t, .bool false⟩] n, sl⟩ := by
  unfold kwB at x
  split at x
  · rename_i es e
    obtain ⟨o, ho, e2⟩ := Option.bind_eq_some_iff.mp e
    obtain ⟨n, hd⟩ := entOf_is e2
    obtain ⟨i, t, hl⟩ := oneB_is x
    obtain ⟨cl, di, da, sl⟩ := o
    simp only at hd
    subst hd
    obtain ⟨l⟩ := es
    simp only at hl
    subst hl
    exact ⟨_, _, _, _, _, _, ho⟩
  · cases x
noncomputable def lookB (h : Heap) : Bool := h.isNs mainGlobals && atB (h.nsMap mainGlobals "_deduplicate") 29 && atB (h.nsMap mainGlobals "_filemode_table") 175 && rvB h 9 (.ref 175) tblE && kwB h && h.codeRecOk (.ref 28) "_deduplicate"
noncomputable def strip (fd : FuncData) : FuncData := { fd with doc := .none, pyModule := .none, annotations := none, closureTuple := .none }
noncomputable def lookF (h : Heap) : Option FuncData := ((h.get? 29).bind fun o => funOf o.data).map strip
noncomputable def fdE : FuncData := { docDef "_deduplicate" (defA "_deduplicate") (defB "_deduplicate") (defS "_deduplicate") .none (.ref 28) .none with kwdefaults := .ref 22 }
structure SaysD (h : Heap) : Prop where
  dd : ∃ m, h.Ns mainGlobals m ∧ m "_deduplicate" = some (.ref 29) ∧ m "_filemode_table" = some (.ref 175)
  tbl : Rv (fun _ => False) h (.ref 175) tblE
  kw : ∃ c d i t n sl, h.get? 22 = some ⟨c, d, .dict #[⟨i, .str "unhashable_fallback" t, .bool false⟩] n, sl⟩
  code : h.CodeRec (.ref 28) "_deduplicate"
  fn : ∃ o fd, h.get? 29 = some o ∧ o.data = .func fd ∧ strip fd = fdE
theorem says_of {h : Heap} (e : (lookB h, lookF h) = (true, some fdE)) : SaysD h := by
  obtain ⟨e1, e2⟩ := Prod.mk.inj e
  simp only [lookB, Bool.and_eq_true] at e1
  obtain ⟨⟨⟨⟨⟨a1, a2⟩, a3⟩, a4⟩, a5⟩, a7⟩ := e1
  refine ⟨⟨_, .of_isNs a1, atB_is a2, atB_is a3⟩, rvB_rv _ _ _ a4, kwB_is a5, .of_ok a7, ?_⟩
  obtain ⟨fd, hf, e3⟩ := Option.map_eq_some_iff.mp e2
  obtain ⟨o, ho, hd⟩ := Option.bind_eq_some_iff.mp hf
  exact ⟨o, fd, ho, funOf_is hd, e3⟩
theorem says_keeps {h h' : Heap} (x : SaysD h) (k : ∀ b o, h.get? b = some o → h'.get? b = some o) : SaysD h' := by
  obtain ⟨⟨m, a, b, c⟩, t, ⟨c2, d2, i2, t2, n2, sl2, e2⟩, cd, ⟨o, fd, ho, hd, e⟩⟩ := x
  exact ⟨⟨m, a.keeps k, b, c⟩, t.keeps k, ⟨c2, d2, i2, t2, n2, sl2, k _ _ e2⟩, cd.keeps k, ⟨o, fd, k _ _ ho, hd, e⟩⟩
noncomputable def dHook : Hook := ⟨Bool × Option FuncData, fun s => (lookB s.heap, lookF s.heap), fun _ => (true, some fdE), fun _ h => SaysD h, fun _ _ e => says_of e, fun _ _ _ x k => says_keeps x k⟩
end Mine


namespace Mine
structure FnAt (mg : Str → Option Value) (hb : Heap) (n : Str) : Prop where
  at' : ∃ a o pm cd doc, mg n = some (.ref a) ∧ hb.get? a = some o ∧ o.data = .func (docDef n (defA n) (defB n) (defS n) pm cd doc) ∧ hb.CodeRec cd n
noncomputable def fnNames : List Str := ["fspath", "_get_sep", "S_IFMT", "_law_number", "_deduplicate_unhashable", "_law_row", "_law_claims", "_law_trees", "filemode", "join", "commonpath", "_law_grown", "law"]
noncomputable def freeNames : List Str := ["bytes", "enumerate", "isinstance", "issubclass", "type", "str", "dict", "len", "list", "map", "max", "min", "range", "set", "sorted", "sum", "tuple"]
structure Facts (mg mb : Str → Option Value) (hb : Heap) : Prop where
  G : GlobOk mg mb hb
  fn : ∀ n ∈ fnNames, FnAt mg hb n
  free : ∀ x ∈ freeNames, mg x = none
  blt : ∀ x : Str, x ≠ "__name__" → mb x = bootBuiltins x
  const : ∃ v, mg "S_IFREG" = some v ∧ Rv (fun _ => False) hb v (.int 32768)
  dd : mg "_deduplicate" = some (.ref 29) ∧ mg "_filemode_table" = some (.ref 175)
  says : SaysD hb
section
variable {prog : Program} {w : World} {hb : Heap} {mg mb : Str → Option Value}
theorem CallDD.mono {k j : Nat} {f : Value} (h : CallDD prog w hb k f) (hj : k ≤ j) : CallDD prog w hb j f := by
  intro K inst knd toD T A Y s v ks Q E R
  exact h knd toD T A Y s v ks Q E (R.le hj)
/-- a def at its place -/
structure Fn (mg : Str → Option Value) (hb : Heap) (n : Str) (a : Addr) (o : Obj) (fd : FuncData) : Prop where
  m : mg n = some (.ref a)
  ho : hb.get? a = some o
  d : o.data = .func fd
theorem Facts.blt' (F : Facts mg mb hb) {x : Str} {v : Value} (hx : x ≠ "__name__") (e : bootBuiltins x = some v) : mb x = some v := (F.blt x hx).trans e
theorem Facts.call (F : Facts mg mb hb) {n : Str} (hn : n ∈ fnNames) {Γ : Lay} {ps : List Str} {g : List PyData → Option (List PyData)} {f : Rho → Option Out} {k N : Nat}
    (hsc : (defS n).isCoroutine = false ∧ (defS n).isGenerator = false) (hbind : ∀ pm cd doc, BindOk prog w hb (docDef n (defA n) (defB n) (defS n) pm cd doc) ps g) (hok : defOk Γ (defS n) ps = true)
    (hN : Γ.length = N) (h : SimS prog w hb k Γ (defS n) f (defB n)) : ∃ a o fd, Fn mg hb n a o fd ∧ CallOk prog w hb (k + 1) (.ref a) (defG N g f) := by
  obtain ⟨a, o, pm, cd, doc, h1, h2, h3, h4⟩ := (F.fn n hn).at'
  refine ⟨a, o, _, ⟨h1, h2, h3⟩, ?_⟩
  subst hN
  exact callOk_bind ⟨⟨o, h2, h3⟩, F.G.lim, h4, rfl, rfl, rfl, rfl, rfl, hsc.1, hsc.2⟩ (hbind pm cd doc) hok h
theorem bind0 {n : Str} {pm cd doc : Value} (e : bindArgs (docDef n (defA n) (defB n) (defS n) pm cd doc) ⟨[], []⟩ = pure []) : BindOk prog w hb (docDef n (defA n) (defB n) (defS n) pm cd doc) [] (plainG 0) :=
  bind_plain (ps := []) fun vals h => by
    rw [List.length_eq_zero_iff.mp h]; exact e
theorem bind1 {n : Str} {pm cd doc : Value} {x : Str} (e : ∀ v, bindArgs (docDef n (defA n) (defB n) (defS n) pm cd doc) ⟨[v], []⟩ = pure [(x, v)]) : BindOk prog w hb (docDef n (defA n) (defB n) (defS n) pm cd doc) [x] (plainG 1) :=
  bind_plain (ps := [x]) fun vals h => by
    obtain ⟨v, rfl⟩ := List.length_eq_one_iff.mp h
    exact e v
theorem bind3 {n : Str} {pm cd doc : Value} {x y z : Str} (e : ∀ u v t, bindArgs (docDef n (defA n) (defB n) (defS n) pm cd doc) ⟨[u, v, t], []⟩ = pure [(x, u), (y, v), (z, t)]) : BindOk prog w hb (docDef n (defA n) (defB n) (defS n) pm cd doc) [x, y, z] (plainG 3) :=
  bind_plain (ps := [x, y, z]) fun vals h => by
    match vals, h with
    | [u, v, t], _ => exact e u v t
theorem ok_fspath (F : Facts mg mb hb) : ∃ a o fd, Fn mg hb "fspath" a o fd ∧ CallOk prog w hb 1 (.ref a) g_fspath :=
  F.call (by decide +kernel) (by decide +kernel) (fun _ _ _ => bind1 (x := "path") fun _ => by rfl) (by decide +kernel) rfl (walk_fspath F.G (F.free _ (by decide +kernel)) (F.blt' (by decide +kernel) (by rfl)) (F.free _ (by decide +kernel)) (F.blt' (by decide +kernel) (by rfl)) (F.free _ (by decide +kernel)) (F.blt' (by decide +kernel) (by rfl)) (F.free _ (by decide +kernel)) (F.blt' (by decide +kernel) (by rfl)))
theorem ok_get_sep (F : Facts mg mb hb) : ∃ a o fd, Fn mg hb "_get_sep" a o fd ∧ CallOk prog w hb 1 (.ref a) g_get_sep :=
  F.call (by decide +kernel) (by decide +kernel) (fun _ _ _ => bind1 (x := "path") fun _ => by rfl) (by decide +kernel) rfl (walk__get_sep F.G (F.free _ (by decide +kernel)) (F.blt' (by decide +kernel) (by rfl)) (F.free _ (by decide +kernel)) (F.blt' (by decide +kernel) (by rfl)))
theorem ok_ifmt (F : Facts mg mb hb) : ∃ a o fd, Fn mg hb "S_IFMT" a o fd ∧ CallOk prog w hb 1 (.ref a) g_S_IFMT :=
  F.call (by decide +kernel) (by decide +kernel) (fun _ _ _ => bind1 (x := "mode") fun _ => by rfl) (by decide +kernel) rfl (walk_S_IFMT F.G)
theorem ok_number (F : Facts mg mb hb) : ∃ a o fd, Fn mg hb "_law_number" a o fd ∧ CallOk prog w hb 1 (.ref a) g_law_number :=
  F.call (by decide +kernel) (by decide +kernel) (fun _ _ _ => bind3 (x := "one") (y := "other") (z := "apart") fun _ _ _ => by rfl) (by decide +kernel) rfl (walk__law_number F.G)
theorem ok_unhash (F : Facts mg mb hb) : ∃ a o fd, Fn mg hb "_deduplicate_unhashable" a o fd ∧ CallOk prog w hb 1 (.ref a) g_deduplicate_unhashable :=
  F.call (by decide +kernel) (by decide +kernel) (fun _ _ _ => bind1 (x := "unhashable_params") fun _ => by rfl) (by decide +kernel) rfl (walk__deduplicate_unhashable F.G)
theorem ok_row (F : Facts mg mb hb) : ∃ a o fd, Fn mg hb "_law_row" a o fd ∧ CallOk prog w hb 1 (.ref a) g_law_row :=
  F.call (by decide +kernel) (by decide +kernel) (fun _ _ _ => bind1 (x := "mode") fun _ => by rfl) (by decide +kernel) rfl (walk__law_row F.G (F.free _ (by decide +kernel)) (F.blt' (by decide +kernel) (by rfl)))
theorem ok_claims (F : Facts mg mb hb) : ∃ a o fd, Fn mg hb "_law_claims" a o fd ∧ CallOk prog w hb 1 (.ref a) g_law_claims :=
  F.call (by decide +kernel) (by decide +kernel) (fun _ _ _ => bind0 (by rfl)) (by decide +kernel) rfl (walk__law_claims F.G (F.free _ (by decide +kernel)) (F.blt' (by decide +kernel) (by rfl)))
theorem ok_trees (F : Facts mg mb hb) : ∃ a o fd, Fn mg hb "_law_trees" a o fd ∧ CallOk prog w hb 2 (.ref a) g_law_trees := by
  obtain ⟨a, o, fd, N, c⟩ := ok_number (prog := prog) (w := w) F
  exact F.call (by decide +kernel) (by decide +kernel) (fun _ _ _ => bind0 (by rfl)) (by decide +kernel) rfl (walk__law_trees F.G (F.free _ (by decide +kernel)) (F.blt' (by decide +kernel) (by rfl)) N.m N.ho N.d c)
theorem ok_filemode (F : Facts mg mb hb) : ∃ a o fd, Fn mg hb "filemode" a o fd ∧ CallOk prog w hb 2 (.ref a) g_filemode := by
  obtain ⟨a, o, fd, N, c⟩ := ok_ifmt (prog := prog) (w := w) F
  exact F.call (by decide +kernel) (by decide +kernel) (fun _ _ _ => bind1 (x := "mode") fun _ => by rfl) (by decide +kernel) rfl (walk_filemode F.G (F.free _ (by decide +kernel)) (F.blt' (by decide +kernel) (by rfl)) F.dd.2 F.says.tbl N.m N.ho N.d c)
theorem ok_join (F : Facts mg mb hb) : ∃ a o fd, Fn mg hb "join" a o fd ∧ CallOk prog w hb 2 (.ref a) g_join := by
  obtain ⟨a, o, fd, N, c⟩ := ok_get_sep (prog := prog) (w := w) F
  obtain ⟨a', o', fd', N', c'⟩ := ok_fspath (prog := prog) (w := w) F
  exact F.call (by decide +kernel) (by decide +kernel) (fun _ _ _ => bind_var (x := "a") (y := "p") fun _ vs => by cases vs <;> rfl) (by decide +kernel) rfl (walk_join F.G N.m N.ho N.d c N'.m N'.ho N'.d c')
theorem fspath_str (z : Str) : g_fspath [.str z] = some (.str z) := by rfl
theorem ok_commonpath (F : Facts mg mb hb) : ∃ a o fd, Fn mg hb "commonpath" a o fd ∧ CallOk prog w hb 3 (.ref a) g_commonpath := by
  obtain ⟨a', o', fd', N', c'⟩ := ok_fspath (prog := prog) (w := w) F
  exact F.call (by decide +kernel) (by decide +kernel) (fun _ _ _ => bind1 (x := "paths") fun _ => by rfl) (by decide +kernel) rfl
    (walk_commonpath (k := 2) F.G (F.free _ (by decide +kernel)) (F.blt' (by decide +kernel) (by rfl)) (F.free _ (by decide +kernel)) (F.blt' (by decide +kernel) (by rfl)) (F.free _ (by decide +kernel)) (F.blt' (by decide +kernel) (by rfl)) (F.free _ (by decide +kernel)) (F.blt' (by decide +kernel) (by rfl)) (F.free _ (by decide +kernel)) (F.blt' (by decide +kernel) (by rfl)) (F.free _ (by decide +kernel)) (F.blt' (by decide +kernel) (by rfl)) (F.free _ (by decide +kernel)) (F.blt' (by decide +kernel) (by rfl)) N'.m (by omega) c' fspath_str)
end
end Mine


namespace Mine
section
variable {prog : Program} {w : World} {hb : Heap} {mg mb : Str → Option Value}
theorem ok_dedup (F : Facts mg mb hb) : ∃ a o fd, Fn mg hb "_deduplicate" a o fd ∧ CallDD prog w hb 1 (.ref a) := by
  obtain ⟨o, fd, ho, hd, e⟩ := F.says.fn
  refine ⟨29, o, fd, ⟨F.dd.1, ho, hd⟩, ?_⟩
  obtain ⟨nm, qn, pr, bd, sc, gb, cl, df, kd, dc, pm, an, co, ct, bu⟩ := fd
  have e1 : qn = "_deduplicate" := congrArg FuncData.qualname e
  have e2 : pr = defA "_deduplicate" := congrArg FuncData.params e
  have e3 : bd = .stmts (defB "_deduplicate") := congrArg FuncData.body e
  have e4 : sc = defS "_deduplicate" := congrArg FuncData.scope e
  have e5 : gb = mainGlobals := congrArg FuncData.globals e
  have e6 : cl = [] := congrArg FuncData.closure e
  have e7 : df = .none := congrArg FuncData.defaults e
  have e8 : kd = .ref 22 := congrArg FuncData.kwdefaults e
  have e9 : co = .ref 28 := congrArg FuncData.code e
  have e10 : bu = builtinsNs := congrArg FuncData.builtins e
  subst e1; subst e2; subst e3; subst e4; subst e5; subst e6; subst e7; subst e8; subst e9; subst e10
  have D : DefAt hb 29 _ (defS "_deduplicate") (defB "_deduplicate") := ⟨⟨o, ho, hd⟩, F.G.lim, F.says.code, rfl, rfl, rfl, rfl, rfl, by decide +kernel, by decide +kernel⟩
  refine @call_dedup prog w hb 0 mg mb 29 _ F.G (F.free _ (by decide +kernel)) (F.blt' (by decide +kernel) (by rfl)) D ?_
  refine bind_kw fun s v hs => ?_
  obtain ⟨c, d, i, t, n, sl, hk⟩ := F.says.kw
  intro M A E Q q
  refine (Looks.of_peek (M := M) (K := [(22, ⟨c, d, .dict #[⟨i, .str "unhashable_fallback" t, .bool false⟩] n, sl⟩)]) ?_ ?_).here q
  · intro a o' ha
    rw [List.lookup_cons] at ha
    split at ha
    · rename_i q
      rw [beq_iff_eq.mp q, ← Option.some.inj ha]
      exact hs _ _ hk
    · cases ha
  · rfl
theorem ok_grown (F : Facts mg mb hb) : ∀ n, ∃ a o fd, Fn mg hb "_law_grown" a o fd ∧ CallOk prog w hb (5 + n) (.ref a) (gl n) := by
  intro n
  induction n with
  | zero =>
    obtain ⟨a, o, pm, cd, doc, h1, h2, h3, h4⟩ := (F.fn "_law_grown" (by decide +kernel)).at'
    refine ⟨a, o, _, ⟨h1, h2, h3⟩, ?_⟩
    intro A Y s vs ds d Q E R hbase hY hYo r hg q
    cases hg
  | succ n ih =>
    obtain ⟨a, o, fd, N, c⟩ := ih
    obtain ⟨a1, o1, fd1, N1, c1⟩ := ok_dedup (prog := prog) (w := w) F
    obtain ⟨a2, o2, fd2, N2, c2⟩ := ok_unhash (prog := prog) (w := w) F
    obtain ⟨a3, o3, fd3, N3, c3⟩ := ok_join (prog := prog) (w := w) F
    exact F.call (by decide +kernel) (by decide +kernel) (fun _ _ _ => bind3 (x := "claims") (y := "leaves") (z := "here") fun _ _ _ => by rfl) (by decide +kernel) rfl
      (walk__law_grown (gl n) (k := 5 + n) F.G (F.free _ (by decide +kernel)) (F.blt' (by decide +kernel) (by rfl)) (F.free _ (by decide +kernel)) (F.blt' (by decide +kernel) (by rfl)) (F.free _ (by decide +kernel)) (F.blt' (by decide +kernel) (by rfl)) (F.free _ (by decide +kernel)) (F.blt' (by decide +kernel) (by rfl))
        N1.m N1.ho N1.d (c1.mono (by omega)) N2.m N2.ho N2.d (c2.mono (by omega)) N.m N.ho N.d c N3.m N3.ho N3.d (c3.mono (by omega)))
theorem ok_law (F : Facts mg mb hb) : ∃ a o fd, Fn mg hb "law" a o fd ∧ CallOk prog w hb 9 (.ref a) (gs_law (gl 3)) := by
  obtain ⟨a, o, fd, N, c⟩ := ok_grown (prog := prog) (w := w) F 3
  obtain ⟨a1, o1, fd1, N1, c1⟩ := ok_dedup (prog := prog) (w := w) F
  obtain ⟨a2, o2, fd2, N2, c2⟩ := ok_claims (prog := prog) (w := w) F
  obtain ⟨a3, o3, fd3, N3, c3⟩ := ok_row (prog := prog) (w := w) F
  obtain ⟨a4, o4, fd4, N4, c4⟩ := ok_trees (prog := prog) (w := w) F
  obtain ⟨a5, o5, fd5, N5, c5⟩ := ok_commonpath (prog := prog) (w := w) F
  obtain ⟨a6, o6, fd6, N6, c6⟩ := ok_filemode (prog := prog) (w := w) F
  obtain ⟨v, hv, hr⟩ := F.const
  exact F.call (by decide +kernel) (by decide +kernel) (fun _ _ _ => bind1 (x := "script") fun _ => by rfl) (by decide +kernel) rfl
    (walk_law (gl 3) (k := 8) F.G (F.free _ (by decide +kernel)) (F.blt' (by decide +kernel) (by rfl)) (F.free _ (by decide +kernel)) (F.blt' (by decide +kernel) (by rfl)) (F.free _ (by decide +kernel)) (F.blt' (by decide +kernel) (by rfl)) (F.free _ (by decide +kernel)) (F.blt' (by decide +kernel) (by rfl)) (F.free _ (by decide +kernel)) (F.blt' (by decide +kernel) (by rfl))
      hv hr N1.m N1.ho N1.d (c1.mono (by omega)) N2.m N2.ho N2.d (c2.mono (by omega)) N.m N.ho N.d c N3.m N3.ho N3.d (c3.mono (by omega)) N4.m N4.ho N4.d (c4.mono (by omega)) N5.m N5.ho N5.d (c5.mono (by omega)) N6.m N6.ho N6.d (c6.mono (by omega)))
end
end Mine


namespace Mine
theorem int_shape {x : WData} (h : WShape.has [] x .int = true) : ∃ i, x = .int i := by
  cases x with
  | int i => exact ⟨i, rfl⟩
  | _ => exact Bool.noConfusion (show false = true from h)
theorem items_int : ∀ {xs : List WData}, WShape.hasItems [] xs .int = true → ∃ is : List Int, xs = is.map .int
  | [], _ => ⟨[], rfl⟩
  | x :: xs, h => by
    obtain ⟨h1, h2⟩ := Bool.and_eq_true_iff.mp (show (WShape.has [] x .int && WShape.hasItems [] xs .int) = true from h)
    obtain ⟨is, rfl⟩ := items_int h2
    obtain ⟨i, rfl⟩ := int_shape h1
    exact ⟨i :: is, rfl⟩
theorem list_shape {x : WData} (h : WShape.has [] x (.list .int) = true) : ∃ is : List Int, x = .list (is.map .int) := by
  cases x with
  | list xs =>
    obtain ⟨is, rfl⟩ := items_int ((Bool.or_false _).symm.trans (show (WShape.hasItems [] xs .int || false) = true from h))
    exact ⟨is, rfl⟩
  | _ => exact Bool.noConfusion (show false = true from h)
theorem args_shape : ∀ {args : List WData}, WShape.hasAll [] args [.list .int] = true → ∃ is : List Int, args = [.list (is.map .int)]
  | [], h => Bool.noConfusion (show false = true from h)
  | [x], h => by
    obtain ⟨h1, -⟩ := Bool.and_eq_true_iff.mp (show (WShape.has [] x (.list .int) && true) = true from h)
    obtain ⟨is, rfl⟩ := list_shape h1
    exact ⟨is, rfl⟩
  | x :: y :: l, h => Bool.noConfusion ((Bool.and_eq_true_iff.mp (show (WShape.has [] x (.list .int) && false) = true from h)).2)
theorem args_of {args : List WData} (hpre : PySem.Challenge.rw_un0032_01.row.toRowW.claim.pre args = true) : ∃ is : List Int, args = [.list (is.map .int)] ∧ is.length ≤ 63 := by
  have hsh := (pre_splitW hpre).1
  have hcond := (pre_splitW hpre).2
  obtain ⟨is, rfl⟩ := args_shape hsh
  refine ⟨is, rfl, ?_⟩
  obtain ⟨h1, -⟩ := holds_andW hcond
  have h := condW_of h1 (by wtm_val)
  simp at h
  omega
theorem ints_well {P : Params} {h : Heap} : ∀ {vs : List Value} {is : List Int}, WellAll P h vs (is.map .int) → Rvs (fun _ => False) h vs (is.map .int)
  | _, [], w => by cases w; exact .nil
  | _, i :: is, w => by
    cases w with
    | cons a b =>
      cases a
      exact .cons (.int _ _) (ints_well b)
theorem list_well {P : Params} {h : Heap} {vals : List Value} {is : List Int} (w : WellAll P h vals [.list (is.map .int)]) : Rvs (fun _ => False) h vals [.list (is.map .int)] := by
  cases w with
  | cons a b =>
    cases b
    cases a with
    | list e r =>
      exact .cons (.list (fun q => q) e rfl rfl (by rw [List.toList_toArray]; exact ints_well r)) .nil
theorem the_walk {w : World} {mg mb : Str → Option Value} {s₁ : Shared} (F : Facts mg mb s₁.heap) {fa : Addr} (hmg : mg "law" = some (.ref fa)) (hg : s₁.gens = #[]) {cl : Str → Option Addr} {mean : ExcName → Option Value}
    {args : List WData} {vals : List Value} (hpre : PySem.Challenge.rw_un0032_01.row.toRowW.claim.pre args = true) (hwl : WellAll w.params s₁.heap vals args) :
    wpAny (model pp w) callerA (call (.ref fa) vals) (fun v s' => GoodWG PySem.Challenge.rw_un0032_01.row.toRowW.claim cl mean args s₁ (.ok (.ret v)) s')
      (fun e s' => GoodWG PySem.Challenge.rw_un0032_01.row.toRowW.claim cl mean args s₁ (.error e) s') s₁ := by
  obtain ⟨is, rfl, hl⟩ := args_of hpre
  obtain ⟨a, o, fd, N, c⟩ := ok_law (prog := pp) (w := w) F
  have : a = fa := by
    have := N.m.symm.trans hmg
    exact Value.ref.inj (Option.some.inj this)
  subst this
  refine c callerA (fun _ => False) s₁ vals _ (.bool true) _ _ ⟨rfl, by decide +kernel, by decide +kernel⟩ (fun _ _ e => e) (fun _ q => q.elim) (fun _ q => q.elim) (list_well hwl) (law_true is (by unfold lim; omega)) fun v s' K r => ?_
  cases r
  obtain ⟨⟨h', t', e⟩, k⟩ := K
  refine GoodW.toG ⟨.inl ⟨_, .bool true, [], rfl, fun _ => rfl, .bool _, postW_of (by wrow_shape) (by wtm_val) (by w_fin), fun _ => ⟨List.nodup_nil, fun _ q => nomatch q⟩⟩, k, by rw [e], by rw [e]; exact hg⟩
end Mine


namespace Mine
noncomputable def recAt (q : Program) (n : Str) : Option (Str × Arguments × List Stmt × Scope) := ((recsOf q).find? fun d => d.name == n).map fun d => (d.name, d.params, d.body, d.scope)
noncomputable def freeB (q : Program) (loose : List Str) : Bool := freeNames.all fun x => !startupNames.contains x && !(looseW q loose).contains x && !((recsOf q).map (·.name)).contains x && !((litsOf q).map (·.1)).contains x && !((clssOf q (looseW q loose)).map (·.name)).contains x
theorem reads_int {h : Heap} {v : Value} {i : Int} {as : List Addr} (r : Reads h v (.int i) as) : ∃ t, v = .int i t := by
  cases r; exact ⟨_, rfl⟩
theorem facts_of {q : Program} {loose : List Str} {R : WRecords} {XP : (Str → Option Value) → Heap → Prop} {w : World} {s₀ : Shared} {mg mb : Str → Option Value} {h : Heap} (G : Ground q loose R XP w s₀ mg mb h) (Y : SaysD h)
    (hq : ∀ n ∈ fnNames, recAt q n = some (n, defA n, defB n, defS n)) (hf : freeB q loose = true) (hc : valOf q "S_IFREG" = some (.int 32768)) : Facts mg mb h := by
  refine ⟨⟨G.T.g, G.T.b, G.T.nolimit⟩, fun n hn => ⟨?_⟩, fun x hx => ?_, G.T.builtins, ?_, ?_, Y⟩
  · have e := hq n hn
    unfold recAt at e
    obtain ⟨d, hd, e⟩ := Option.map_eq_some_iff.mp e
    simp only [Prod.mk.injEq] at e
    obtain ⟨e1, e2, e3, e4⟩ := e
    obtain ⟨a, o, pm, code, doc, h1, h2, h3, h4⟩ := G.T.fn d (List.mem_of_find?_eq_some hd)
    rw [e1, e2, e3, e4] at h3
    rw [e1] at h1 h4
    exact ⟨a, o, pm, code, doc, h1, h2, h3, h4⟩
  · have := List.all_eq_true.mp hf x hx
    simp only [Bool.and_eq_true, Bool.not_eq_true'] at this
    obtain ⟨⟨⟨⟨a, b⟩, c⟩, d⟩, e⟩ := this
    have no : ∀ {l : List Str}, l.contains x = false → x ∉ l := fun z q => by rw [List.contains_iff_mem.mpr q] at z; cases z
    exact G.T.free x (no a) (no b) (no c) (no d) (no e)
  · obtain ⟨v, hv, r⟩ := G.T.const _ _ hc
    obtain ⟨t, rfl⟩ := reads_int (r h)
    exact ⟨_, hv, .int _ _⟩
  · obtain ⟨m, n1, n2, n3⟩ := Y.dd
    exact ⟨(G.T.g.agree n1 _).trans n2, (G.T.g.agree n1 _).trans n3⟩
end Mine

open Mine
set_option maxHeartbeats 0
theorem PySem.Challenge.cw_un0032_01_holds : PySem.Challenge.rw_un0032_01.Holds := by
  w_on
  o_law
  o_head dHook
  (case hw => w_witness2)
  intro w s₀ s₁ mg mb G Y fa o pm cd doc dV kV ho hd hcd hD hmg hg args vals as hpre hlay hrd hwl hlo
  refine the_walk (facts_of G Y ?_ (by decide +kernel) (by rfl)) hmg hg hpre hwl
  unfold fnNames
  simp only [List.forall_mem_cons]
  refine ⟨?_, ?_, ?_, ?_, ?_, ?_, ?_, ?_, ?_, ?_, ?_, ?_, ?_, fun _ q => nomatch q⟩ <;> rfl
